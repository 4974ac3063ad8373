-- Written by a program of ours (wip/xp) out of the translation; Lean checks it.
import Derived.Test.YtkkkaegocinkeaaDoorSq
import Derived.Test.YtkkkaegocinkeaaDoorMm1
namespace Go.Proofs.YtkkkaegocinkeaaDoor.M
open Go.RowKit Go.Proofs.YtkkkaegocinkeaaDoorW.PrintWords Go.Proofs.YtkkkaegocinkeaaDoorW.PrintLast Go.Proofs.YtkkkaegocinkeaaDoorW.PrintMore
attribute [local go_sem] max2_int min2_int max_two min_two max_three min_three max_four min_four   -- for this text's walks alone
set_option linter.unusedVariables false
set_option linter.unusedSimpArgs false

/-! ### spec_split: function 48 -/
def spec_split.l0 : Nat → Int → Int → Option (Int)
 | 0, _, _ => none
 | k + 1, x0, x3 => if x3 < (IntKind.u64.wrap (x0 - x3)) then (spec_split.l0 k x0 (IntKind.u64.wrap (x3 * 2))) else (some x3)
def spec_split.f (k : Nat) (a0 : Int) : Option (Int) := spec_split.l0 k a0 1
theorem spec_split.mono_l : ∀ k, (∀ y0 y1, LeO (spec_split.l0 k y0 y1) (spec_split.l0 (k + 1) y0 y1))
 | 0 => fun _ _ r h => by simp [spec_split.l0] at h
 | k + 1 => by
  have ih0 := spec_split.mono_l k
  ·intro y0 y1
   unfold spec_split.l0
   repeat' first
   | (with_reducible exact ih0 _ _)
   | (with_reducible exact LeO.refl _)
   | (with_reducible exact LeO.none _)
   | (with_reducible refine LeO.ite ?_ ?_)
   | (with_reducible refine LeO.bind ?_ (fun _ => ?_))
   | exact ih0 _ _
   | exact LeO.none _
   | refine LeO.ite ?_ ?_
   | refine LeO.bind ?_ (fun _ => ?_)
theorem spec_split.mono : ∀ a0 k, LeO (spec_split.f k a0) (spec_split.f (k + 1) a0) := by
 intro a0 k
 have ih0 := spec_split.mono_l k
 unfold spec_split.f
 repeat' first
   | (with_reducible exact ih0 _ _)
   | (with_reducible exact LeO.refl _)
   | (with_reducible exact LeO.none _)
   | (with_reducible refine LeO.ite ?_ ?_)
   | (with_reducible refine LeO.bind ?_ (fun _ => ?_))
   | exact ih0 _ _
   | exact LeO.none _
   | refine LeO.ite ?_ ?_
   | refine LeO.bind ?_ (fun _ => ?_)
set_option maxHeartbeats 8000000 in
set_option maxRecDepth 100000 in
theorem spec_split.calls (k : Nat) (a0 : Int) (r : Int) (w : World) (h : spec_split.f k a0 = some r) :
  Calls Tryd.prog 48 #[.int .u64 a0] w fun e w' => e = .returned (.int .u64 r) ∧ Drawn0 w w' := by
 have H : (spec_split.l0 k a0 1) = some r := h
 clear h
 have H' := Aside0.mk H
 clear H
 go_enter Tryd.func48, Tryd.ntmps48
 go_wp2
 go_loopg [3] k (fun kq v3 w' => ∃ (x3_1 : Int), v3 = .int .u64 x3_1 ∧ Aside0 (spec_split.l0 kq a0 x3_1 = some r) ∧ Aside0 (kq ≤ k) ∧ Drawn0 w w')
 case atStart => exact ⟨(1), (by first | rfl | (simp; done) | (simp [*]; done)), H', ⟨Nat.le_refl _⟩, by repeat (first | exact Drawn0.refl _ | apply Drawn0.step)⟩
 case round =>
  clear H'
  obtain ⟨x3_1, rfl, HA, HK1, ⟨m1, rfl⟩⟩ := hrel
  cases gk with
  | zero => exact absurd HA.out (by simp [spec_split.l0])
  | succ k1 =>
   have H := HA.out
   clear HA
   simp only [spec_split.l0] at H
   by_cases c2 : x3_1 < (IntKind.u64.wrap (a0 - x3_1))
   ·rw [if_pos c2] at H
    have c2b0 : decide (x3_1 < (IntKind.u64.wrap (a0 - x3_1))) = true := decide_eq_true c2
    clear c2
    have H' := Aside0.mk H
    clear H
    go_wp2
    go_roundg k1
    case measure => have := HK1.out; omega
    case rel => exact ⟨(IntKind.u64.wrap (x3_1 * 2)), (by first | rfl | (simp; done) | (simp [*]; done)), H', ⟨by have := HK1.out; omega⟩, by repeat (first | exact Drawn0.refl _ | apply Drawn0.step)⟩
   ·rw [if_neg c2] at H
    have c2b0 : decide (x3_1 < (IntKind.u64.wrap (a0 - x3_1))) = false := decide_eq_false c2
    clear c2
    obtain rfl := Option.some.inj H
    go_wp2
    go_ret
    exact ⟨by first | rfl | (simp; done) | (simp [*]; done), by repeat (first | exact Drawn0.refl _ | apply Drawn0.step)⟩


/-! ### spec_pathIn: function 43 -/
def spec_pathIn.f : Nat → Int → Int → Int → Option ((List (S45)))
 | 0, _, _, _ => none
 | k + 1, a0, a1_0, a1_1 => if (IntKind.u64.wrap (a1_1 - a1_0)) = 1 then (some ([] : List (S45))) else ((spec_split.f k (IntKind.u64.wrap (a1_1 - a1_0))).bind fun t220 => (if a0 < (IntKind.u64.wrap (a1_0 + t220)) then ((spec_pathIn.f k a0 a1_0 (IntKind.u64.wrap (a1_0 + t220))).bind fun t221 => ((some (([(⟨IntKind.u64.wrap (a1_0 + t220), a1_1⟩ : S45)] : List (S45)) : List (S45))).bind fun y224 => (if t221.length + y224.length < 8796093022208 then (some (t221 ++ y224)) else (none)))) else ((spec_pathIn.f k a0 (IntKind.u64.wrap (a1_0 + t220)) a1_1).bind fun t230 => ((some (([(⟨a1_0, IntKind.u64.wrap (a1_0 + t220)⟩ : S45)] : List (S45)) : List (S45))).bind fun y233 => (if t230.length + y233.length < 8796093022208 then (some (t230 ++ y233)) else (none))))))
theorem spec_pathIn.mono_l : ∀ k, (∀ y0 y1 y2, LeO (spec_pathIn.f k y0 y1 y2) (spec_pathIn.f (k + 1) y0 y1 y2))
 | 0 => fun _ _ _ r h => by simp [spec_pathIn.f] at h
 | k + 1 => by
  have ih0 := spec_pathIn.mono_l k
  ·intro y0 y1 y2
   unfold spec_pathIn.f
   repeat' first
   | (with_reducible exact ih0 _ _ _)
   | (with_reducible exact spec_split.mono _ _)
   | (with_reducible exact LeO.refl _)
   | (with_reducible exact LeO.none _)
   | (with_reducible refine LeO.ite ?_ ?_)
   | (with_reducible refine LeO.bind ?_ (fun _ => ?_))
   | exact ih0 _ _ _
   | exact spec_split.mono _ _
   | exact LeO.none _
   | refine LeO.ite ?_ ?_
   | refine LeO.bind ?_ (fun _ => ?_)
theorem spec_pathIn.mono : ∀ a0 a1 a2 k, LeO (spec_pathIn.f k a0 a1 a2) (spec_pathIn.f (k + 1) a0 a1 a2) := by
 intro a0 a1 a2 k
 have ih0 := spec_pathIn.mono_l k
 exact ih0 a0 a1 a2
def spec_pathIn.T3 : Bool × List (List Nat × List Nat) := (true, [([], []), ([0], [0]), ([], []), ([2], [2]), ([], []), ([4], [4]), ([3, 5], [3, 5]), ([6], [6]), ([1, 7], [1, 7]), ([8, 7, 0, 1, 2, 3, 4, 5, 6, 7, 8], [8])])
def spec_pathIn.B3 : List Nat := [0, 1, 0, 4, 0, 16, 60, 124, 255, 511]
theorem spec_pathIn.tab3 : rtab .any (opsOf Tryd.f43 3) = spec_pathIn.T3 := by kernel_rfl
theorem spec_pathIn.bits3 : waitsOk spec_pathIn.T3.2 spec_pathIn.B3 = true := by kernel_rfl
def spec_pathIn.T5 : Bool × List (List Nat × List Nat) := (true, [([], []), ([], []), ([1], [1]), ([], []), ([2, 3], [2, 3]), ([0, 4], [0, 4]), ([], []), ([], []), ([7], [7]), ([6, 8], [6, 8]), ([9], [9]), ([5, 10, 5], [5, 10]), ([11, 11, 0, 1, 2, 3, 4, 5, 6, 7, 8, 9, 10, 11], [11])])
def spec_pathIn.B5 : List Nat := [0, 0, 2, 0, 14, 31, 0, 0, 128, 448, 960, 2047, 4095]
theorem spec_pathIn.tab5 : rtab .any (opsOf Tryd.f43 5) = spec_pathIn.T5 := by kernel_rfl
theorem spec_pathIn.bits5 : waitsOk spec_pathIn.T5.2 spec_pathIn.B5 = true := by kernel_rfl
def spec_pathIn.T6 : Bool × List (List Nat × List Nat) := (true, [([], []), ([], []), ([], []), ([2], [2]), ([1, 3], [1, 3]), ([0, 4], [0, 4]), ([], []), ([6], [6]), ([], []), ([7, 8], [7, 8]), ([9], [9]), ([5, 10, 5], [5, 10]), ([11, 11, 0, 1, 2, 3, 4, 5, 6, 7, 8, 9, 10, 11], [11])])
def spec_pathIn.B6 : List Nat := [0, 0, 0, 4, 14, 31, 0, 64, 0, 448, 960, 2047, 4095]
theorem spec_pathIn.tab6 : rtab .any (opsOf Tryd.f43 6) = spec_pathIn.T6 := by kernel_rfl
theorem spec_pathIn.bits6 : waitsOk spec_pathIn.T6.2 spec_pathIn.B6 = true := by kernel_rfl
set_option maxHeartbeats 8000000 in
set_option maxRecDepth 100000 in
theorem spec_pathIn.calls (k : Nat) : ∀ (a0 : Int) (a1_0 : Int) (a1_1 : Int) (r : List (S45)) (w : World) (h : spec_pathIn.f k a0 a1_0 a1_1 = some r),
  Calls Tryd.prog 43 #[.int .u64 a0, .agg #[.int .u64 a1_0, .int .u64 a1_1]] w fun e w' => ∃ v0_ : Value, e = .returned (v0_) ∧ Kd.R k45 45 w' w.heap.size (fun _ => True) v0_ r ∧ Below w.heap.size w w' := by
 induction k using Nat.strongRecOn with
 | _ k ih =>
 intro a0 a1_0 a1_1 r w h
 cases k with
 | zero => exact absurd h (by simp [spec_pathIn.f])
 | succ k =>
 simp only [spec_pathIn.f] at h
 have hu45 := Tryd.underlying45
 have HB := Aside0.mk (Below.refl w.heap.size w)
 have H : (if (IntKind.u64.wrap (a1_1 - a1_0)) = 1 then (some ([] : List (S45))) else ((spec_split.f k (IntKind.u64.wrap (a1_1 - a1_0))).bind fun t220 => (if a0 < (IntKind.u64.wrap (a1_0 + t220)) then ((spec_pathIn.f k a0 a1_0 (IntKind.u64.wrap (a1_0 + t220))).bind fun t221 => ((some (([(⟨IntKind.u64.wrap (a1_0 + t220), a1_1⟩ : S45)] : List (S45)) : List (S45))).bind fun y224 => (if t221.length + y224.length < 8796093022208 then (some (t221 ++ y224)) else (none)))) else ((spec_pathIn.f k a0 (IntKind.u64.wrap (a1_0 + t220)) a1_1).bind fun t230 => ((some (([(⟨a1_0, IntKind.u64.wrap (a1_0 + t220)⟩ : S45)] : List (S45)) : List (S45))).bind fun y233 => (if t230.length + y233.length < 8796093022208 then (some (t230 ++ y233)) else (none))))))) = some r := h
 clear h
 by_cases c3 : (IntKind.u64.wrap (a1_1 - a1_0)) = 1
 ·rw [if_pos c3] at H
  have c3b0 : ((IntKind.u64.wrap (a1_1 - a1_0)) == 1) = true := beq_iff_eq.mpr c3
  have c3b1 : ((IntKind.u64.wrap (a1_1 - a1_0)) != 1) = false := bne_eq_false_iff_eq.mpr c3
  clear c3
  obtain rfl := Option.some.inj H
  go_enter Tryd.func43, Tryd.ntmps43
  go_wp2_with (first | ((with_reducible refine gate_dst (N := 3) rfl ?_); refine box_event ?hg (N := 3) ?hd (cs := #[.int .u64 a1_0, .int .u64 a1_1]) (t := 45) ?hr ?_; (case hd => rfl); (case hg => rfl); (case hr => first | (go_simp; done) | (go_simp; rfl)); intro gb219 hg w4 hbox hb; have n0_ := Aside0.mk (below_step bB hb); have n1_ := Aside0.mk (hbox); have n2_ := Aside0.mk ((by rw [hg]; exact (below_size bB) : w.heap.size ≤ gb219)); have n3_ := Aside0.mk ((by rw [hg]; exact (below_size bB) : w.heap.size ≤ gb219)); clear HB; have HB := n0_; have BK219 := n1_; have GW219 := n2_; have GE219 := n3_; clear n0_ n1_ n2_ n3_; clear hb hbox hg; have hcz5_0 : w4.cell? ⟨gb219, 0, none⟩ = some (.int .u64 a1_0) := (blk_cell BK219.out 0).trans rfl; have hcz5_1 : w4.cell? ⟨gb219, 1, none⟩ = some (.int .u64 a1_1) := (blk_cell BK219.out 1).trans rfl; have hfz5_0 := blk_frozen BK219.out 0; have hfz5_1 := blk_frozen BK219.out 1))
  go_ret
  exact ⟨(.slice none 0 0), by first | rfl | (simp [errW_none, errW_some] <;> rfl) | (simp [*, errW_none, errW_some] <;> rfl), by first | exact Kd.V_nil _ _ _ _ _ | exact Kd.R_nil _ _ _ _ _ | exact Kd.S_nil _ _ _ _ _ | exact Kd.N_nil _ _ _ _ _ | exact Kd.Q_nil _ _ _ _ _, bB⟩
 ·rw [if_neg c3] at H
  have c3b0 : ((IntKind.u64.wrap (a1_1 - a1_0)) == 1) = false := beq_eq_false_iff_ne.mpr c3
  have c3b1 : ((IntKind.u64.wrap (a1_1 - a1_0)) != 1) = true := bne_iff_ne.mpr c3
  replace H := Option.bind_eq_some_iff.mp H
  obtain ⟨t220, A60, H⟩ := H
  replace H : (if a0 < (IntKind.u64.wrap (a1_0 + t220)) then ((spec_pathIn.f k a0 a1_0 (IntKind.u64.wrap (a1_0 + t220))).bind fun t221 => ((some (([(⟨IntKind.u64.wrap (a1_0 + t220), a1_1⟩ : S45)] : List (S45)) : List (S45))).bind fun y224 => (if t221.length + y224.length < 8796093022208 then (some (t221 ++ y224)) else (none)))) else ((spec_pathIn.f k a0 (IntKind.u64.wrap (a1_0 + t220)) a1_1).bind fun t230 => ((some (([(⟨a1_0, IntKind.u64.wrap (a1_0 + t220)⟩ : S45)] : List (S45)) : List (S45))).bind fun y233 => (if t230.length + y233.length < 8796093022208 then (some (t230 ++ y233)) else (none))))) = some r := H
  have A6 := Aside0.mk A60
  clear A60
  by_cases c7 : a0 < (IntKind.u64.wrap (a1_0 + t220))
  ·rw [if_pos c7] at H
   have c7b0 : decide (a0 < (IntKind.u64.wrap (a1_0 + t220))) = true := decide_eq_true c7
   clear c7
   replace H := Option.bind_eq_some_iff.mp H
   obtain ⟨t221, A80, H⟩ := H
   replace H : ((some (([(⟨IntKind.u64.wrap (a1_0 + t220), a1_1⟩ : S45)] : List (S45)) : List (S45))).bind fun y224 => (if t221.length + y224.length < 8796093022208 then (some (t221 ++ y224)) else (none))) = some r := H
   have A8 := Aside0.mk A80
   clear A80
   obtain ⟨y224, hy224⟩ : ∃ y_ : List (S45), y_ = (([(⟨IntKind.u64.wrap (a1_0 + t220), a1_1⟩ : S45)] : List (S45))) := ⟨_, rfl⟩
   replace H : (if t221.length + y224.length < 8796093022208 then (some (t221 ++ y224)) else (none)) = some r := by first | (rw [hy224]; with_reducible exact H) | (have H2_ := (Option.bind_some _ _).symm.trans H; rw [hy224]; with_reducible exact H2_) | (have H2_ := (Option.bind_some _ _).symm.trans H; with_reducible exact H2_) | with_reducible exact H | (rw [hy224]; exact H) | exact H
   have Ny224 := Aside0.mk hy224
   clear hy224
   by_cases c9 : t221.length + y224.length < 8796093022208
   ·rw [if_pos c9] at H
    have LMc9 := Aside0.mk c9
    clear c9
    obtain ⟨y227, hy227⟩ : ∃ y_ : List (S45), y_ = (t221 ++ y224) := ⟨_, rfl⟩
    replace H : (some y227) = some r := by first | (rw [hy227]; with_reducible exact H) | (have H2_ := (Option.bind_some _ _).symm.trans H; rw [hy227]; with_reducible exact H2_) | (have H2_ := (Option.bind_some _ _).symm.trans H; with_reducible exact H2_) | with_reducible exact H | (rw [hy227]; exact H) | exact H
    have Ny227 := Aside0.mk hy227
    clear hy227
    obtain rfl := Option.some.inj H
    go_enter Tryd.func43, Tryd.ntmps43
    try go_wp2_with (first | ((with_reducible refine gate_dst (N := 3) rfl ?_); refine box_event ?hg (N := 3) ?hd (cs := #[.int .u64 a1_0, .int .u64 a1_1]) (t := 45) ?hr ?_; (case hd => rfl); (case hg => rfl); (case hr => first | (go_simp; done) | (go_simp; rfl)); intro gb219 hg w10 hbox hb; have n0_ := Aside0.mk (below_step bB hb); have n1_ := Aside0.mk (hbox); have n2_ := Aside0.mk ((by rw [hg]; exact (below_size bB) : w.heap.size ≤ gb219)); have n3_ := Aside0.mk ((by rw [hg]; exact (below_size bB) : w.heap.size ≤ gb219)); clear HB; have HB := n0_; have BK219 := n1_; have GW219 := n2_; have GE219 := n3_; clear n0_ n1_ n2_ n3_; clear hb hbox hg; have hcz11_0 : w10.cell? ⟨gb219, 0, none⟩ = some (.int .u64 a1_0) := (blk_cell BK219.out 0).trans rfl; have hcz11_1 : w10.cell? ⟨gb219, 1, none⟩ = some (.int .u64 a1_1) := (blk_cell BK219.out 1).trans rfl; have hfz11_0 := blk_frozen BK219.out 0; have hfz11_1 := blk_frozen BK219.out 1))
    have n0_ := Aside0.mk (blk_drew BK219.out)
    have n1_ := Aside0.mk (below_drew1 HB.out)
    clear BK219
    clear HB
    have BK219 := n0_
    have HB := n1_
    clear n0_ n1_
    refine start_ (n := 10) (S := fun w' => w'.cell? ⟨gb219, 0, none⟩ = some (.int .u64 a1_0) ∧ w'.cell? ⟨gb219, 1, none⟩ = some (.int .u64 a1_1)) (ds := []) #[false, false, false, false, false, false, false, false, false, false] (by kernel_rfl) rfl rfl ⟨(blk_cell BK219.out 0).trans rfl, (blk_cell BK219.out 1).trans rfl⟩ (fun hHeld => ?_); refine with_tabW spec_pathIn.tab3 spec_pathIn.bits3 (fun HT_ HW_ => ?_)
    generalize w10.drew = w12 at BK219 HB hHeld ⊢
    refine pure_ (i := 0) (N := some 12) (v := ?_) (a' := ?_) #[true, false, false, false, false, false, false, false, false, false] rfl rfl (any_of HT_.out (by kernel_rfl)) (fun _ _ _ h => h) (Or.inl ⟨by rfl, ?_⟩) ?_ ?_
    rotate_left
    ·intro w'
     go_simp
     with_reducible rfl
    rotate_left
    ·simp only [Act.put, List.setIfInBounds_toArray, List.set_cons_zero, List.set_cons_succ, i64_w, i32_w]
     rfl
    refine pure_ (i := 2) (N := some 14) (v := ?_) (a' := ?_) #[true, false, true, false, false, false, false, false, false, false] rfl rfl (any_of HT_.out (by kernel_rfl)) (fun _ _ _ h => h) (Or.inl ⟨by rfl, ?_⟩) ?_ ?_
    rotate_left
    ·intro w'
     go_simp
     with_reducible rfl
    rotate_left
    ·simp only [Act.put, List.setIfInBounds_toArray, List.set_cons_zero, List.set_cons_succ, i64_w, i32_w]
     rfl
    refine pure_ (i := 4) (N := some 16) (v := ?_) (a' := ?_) #[true, false, true, false, true, false, false, false, false, false] rfl rfl (any_of HT_.out (by kernel_rfl)) (fun _ _ _ h => h) (Or.inl ⟨by rfl, ?_⟩) ?_ ?_
    rotate_left
    ·intro w'
     go_simp
     with_reducible rfl
    rotate_left
    ·simp only [Act.put, List.setIfInBounds_toArray, List.set_cons_zero, List.set_cons_succ, i64_w, i32_w]
     rfl
    refine take_ (i := 1) (N := some 13) (v := ?_) (a' := ?_) #[true, true, true, false, true, false, false, false, false, false] rfl rfl (take_ofW HT_.out HW_.out (by kernel_rfl)) (fun _ _ _ h => h) (Or.inl ⟨by rfl, ?_⟩) hHeld ?_ ?_
    rotate_left
    ·rintro w' ⟨s0, s1⟩
     go_simp
     with_reducible rfl
    rotate_left
    ·simp only [Act.put, List.setIfInBounds_toArray, List.set_cons_zero, List.set_cons_succ, i64_w, i32_w]
     rfl
    refine take_ (i := 3) (N := some 15) (v := ?_) (a' := ?_) #[true, true, true, true, true, false, false, false, false, false] rfl rfl (take_ofW HT_.out HW_.out (by kernel_rfl)) (fun _ _ _ h => h) (Or.inl ⟨by rfl, ?_⟩) hHeld ?_ ?_
    rotate_left
    ·rintro w' ⟨s0, s1⟩
     go_simp
     with_reducible rfl
    rotate_left
    ·simp only [Act.put, List.setIfInBounds_toArray, List.set_cons_zero, List.set_cons_succ, i64_w, i32_w]
     rfl
    refine take_ (i := 5) (N := some 17) (v := ?_) (a' := ?_) #[true, true, true, true, true, true, false, false, false, false] rfl rfl (take_ofW HT_.out HW_.out (by kernel_rfl)) (fun _ _ _ h => h) (Or.inl ⟨by rfl, ?_⟩) hHeld ?_ ?_
    rotate_left
    ·rintro w' ⟨s0, s1⟩
     go_simp
     with_reducible rfl
    rotate_left
    ·simp only [Act.put, List.setIfInBounds_toArray, List.set_cons_zero, List.set_cons_succ, i64_w, i32_w]
     rfl
    refine pure_ (i := 6) (N := some 18) (v := ?_) (a' := ?_) #[true, true, true, true, true, true, true, false, false, false] rfl rfl (any_of HT_.out (by kernel_rfl)) (fun _ _ _ h => h) (Or.inl ⟨by rfl, ?_⟩) ?_ ?_
    rotate_left
    ·intro w'
     go_simp
     with_reducible rfl
    rotate_left
    ·simp only [Act.put, List.setIfInBounds_toArray, List.set_cons_zero, List.set_cons_succ, i64_w, i32_w]
     rfl
    refine one_ (i := 7) (N := some 19) #[true, true, true, true, true, true, true, true, false, false] rfl rfl (one_of HT_.out (by kernel_rfl)) (by decide) (fun K hK => ?_)
    refine goes_ Tryd.func48 (by kernel_rfl) rfl #[.int .u64 (IntKind.u64.wrap (a1_1 - a1_0))] (by rfl) rfl rfl aV ?_
    with_reducible refine (spec_split.calls k (IntKind.u64.wrap (a1_1 - a1_0)) t220 _ A6.out).mono ?_
    rintro e w' ⟨rfl, ⟨nd, rfl⟩⟩
    refine ⟨_, rfl, ?_⟩
    refine hK.out _ _ ⟨(blk_cell BK219.out 0).trans rfl, (blk_cell BK219.out 1).trans rfl⟩ (fun hHeld => ?_)
    clear hK K
    refine norm_ (a' := ?_) ?_ ?_
    rotate_left
    ·show Act.put _ (some 19) _ = _
     simp only [Act.put, List.setIfInBounds_toArray, List.set_cons_zero, List.set_cons_succ, i64_w, i32_w]
     rfl
    refine pure_ (i := 8) (N := some 20) (v := ?_) (a' := ?_) #[true, true, true, true, true, true, true, true, true, false] rfl rfl (any_of HT_.out (by kernel_rfl)) (fun _ _ _ h => h) (Or.inl ⟨by rfl, ?_⟩) ?_ ?_
    rotate_left
    ·intro w'
     go_simp
     with_reducible rfl
    rotate_left
    ·simp only [Act.put, List.setIfInBounds_toArray, List.set_cons_zero, List.set_cons_succ, i64_w, i32_w]
     rfl
    refine pure_ (i := 9) (N := some 5) (v := ?_) (a' := ?_) #[true, true, true, true, true, true, true, true, true, true] rfl rfl (any_of HT_.out (by kernel_rfl)) (fun _ _ _ h => h) (Or.inl ⟨by rfl, ?_⟩) ?_ ?_
    rotate_left
    ·intro w'
     go_simp
     with_reducible rfl
    rotate_left
    ·simp only [Act.put, List.setIfInBounds_toArray, List.set_cons_zero, List.set_cons_succ, i64_w, i32_w]
     rfl
    refine done_ (done_of HT_.out (by kernel_rfl)) ?_
    try go_wp2
    (try (rw [drewN_self w12]; generalize hq_ : World.drewN w12 _ = w12; have n0_ : Aside0 (w12.heap[gb219]? = some (.cells #[.int .u64 a1_0, .int .u64 a1_1] 45 (0, 0))) := ⟨by rw [← hq_]; exact (kB BK219.out)⟩; have n1_ : Aside0 (Below w.heap.size w w12) := ⟨by rw [← hq_]; exact bB⟩; clear BK219 HB hq_; have BK219 := n0_; have HB := n1_; clear n0_ n1_))
    have n0_ := Aside0.mk (blk_drew BK219.out)
    have n1_ := Aside0.mk (below_drew1 HB.out)
    clear BK219
    clear HB
    have BK219 := n0_
    have HB := n1_
    clear n0_ n1_
    refine start_ (n := 13) (S := fun w' => w'.cell? ⟨gb219, 0, none⟩ = some (.int .u64 a1_0) ∧ w'.cell? ⟨gb219, 1, none⟩ = some (.int .u64 a1_1)) (ds := []) #[false, false, false, false, false, false, false, false, false, false, false, false, false] (by kernel_rfl) rfl rfl ⟨(blk_cell BK219.out 0).trans rfl, (blk_cell BK219.out 1).trans rfl⟩ (fun hHeld => ?_); refine with_tabW spec_pathIn.tab5 spec_pathIn.bits5 (fun HT_ HW_ => ?_)
    generalize w12.drew = w13 at BK219 HB hHeld ⊢
    refine pure_ (i := 0) (N := some 24) (v := ?_) (a' := ?_) #[true, false, false, false, false, false, false, false, false, false, false, false, false] rfl rfl (any_of HT_.out (by kernel_rfl)) (fun _ _ _ h => h) (Or.inl ⟨by rfl, ?_⟩) ?_ ?_
    rotate_left
    ·intro w'
     go_simp
     with_reducible rfl
    rotate_left
    ·simp only [Act.put, List.setIfInBounds_toArray, List.set_cons_zero, List.set_cons_succ, i64_w, i32_w]
     rfl
    refine pure_ (i := 1) (N := some 25) (v := ?_) (a' := ?_) #[true, true, false, false, false, false, false, false, false, false, false, false, false] rfl rfl (any_of HT_.out (by kernel_rfl)) (fun _ _ _ h => h) (Or.inl ⟨by rfl, ?_⟩) ?_ ?_
    rotate_left
    ·intro w'
     go_simp
     with_reducible rfl
    rotate_left
    ·simp only [Act.put, List.setIfInBounds_toArray, List.set_cons_zero, List.set_cons_succ, i64_w, i32_w]
     rfl
    refine pure_ (i := 3) (N := some 27) (v := ?_) (a' := ?_) #[true, true, false, true, false, false, false, false, false, false, false, false, false] rfl rfl (any_of HT_.out (by kernel_rfl)) (fun _ _ _ h => h) (Or.inl ⟨by rfl, ?_⟩) ?_ ?_
    rotate_left
    ·intro w'
     go_simp
     with_reducible rfl
    rotate_left
    ·simp only [Act.put, List.setIfInBounds_toArray, List.set_cons_zero, List.set_cons_succ, i64_w, i32_w]
     rfl
    refine pure_ (i := 6) (N := some 30) (v := ?_) (a' := ?_) #[true, true, false, true, false, false, true, false, false, false, false, false, false] rfl rfl (any_of HT_.out (by kernel_rfl)) (fun _ _ _ h => h) (Or.inl ⟨by rfl, ?_⟩) ?_ ?_
    rotate_left
    ·intro w'
     go_simp
     with_reducible rfl
    rotate_left
    ·simp only [Act.put, List.setIfInBounds_toArray, List.set_cons_zero, List.set_cons_succ, i64_w, i32_w]
     rfl
    refine pure_ (i := 7) (N := some 31) (v := ?_) (a' := ?_) #[true, true, false, true, false, false, true, true, false, false, false, false, false] rfl rfl (any_of HT_.out (by kernel_rfl)) (fun _ _ _ h => h) (Or.inl ⟨by rfl, ?_⟩) ?_ ?_
    rotate_left
    ·intro w'
     go_simp
     with_reducible rfl
    rotate_left
    ·simp only [Act.put, List.setIfInBounds_toArray, List.set_cons_zero, List.set_cons_succ, i64_w, i32_w]
     rfl
    refine take_ (i := 2) (N := some 26) (v := ?_) (a' := ?_) #[true, true, true, true, false, false, true, true, false, false, false, false, false] rfl rfl (take_ofW HT_.out HW_.out (by kernel_rfl)) (fun _ _ _ h => h) (Or.inl ⟨by rfl, ?_⟩) hHeld ?_ ?_
    rotate_left
    ·rintro w' ⟨s0, s1⟩
     go_simp
     with_reducible rfl
    rotate_left
    ·simp only [Act.put, List.setIfInBounds_toArray, List.set_cons_zero, List.set_cons_succ, i64_w, i32_w]
     rfl
    refine pure_ (i := 4) (N := some 28) (v := ?_) (a' := ?_) #[true, true, true, true, true, false, true, true, false, false, false, false, false] rfl rfl (any_of HT_.out (by kernel_rfl)) (fun _ _ _ h => h) (Or.inl ⟨by rfl, ?_⟩) ?_ ?_
    rotate_left
    ·intro w'
     go_simp
     with_reducible rfl
    rotate_left
    ·simp only [Act.put, List.setIfInBounds_toArray, List.set_cons_zero, List.set_cons_succ, i64_w, i32_w]
     rfl
    refine take_ (i := 8) (N := some 32) (v := ?_) (a' := ?_) #[true, true, true, true, true, false, true, true, true, false, false, false, false] rfl rfl (take_ofW HT_.out HW_.out (by kernel_rfl)) (fun _ _ _ h => h) (Or.inl ⟨by rfl, ?_⟩) hHeld ?_ ?_
    rotate_left
    ·rintro w' ⟨s0, s1⟩
     go_simp
     with_reducible rfl
    rotate_left
    ·simp only [Act.put, List.setIfInBounds_toArray, List.set_cons_zero, List.set_cons_succ, i64_w, i32_w]
     rfl
    refine pure_ (i := 9) (N := some 33) (v := ?_) (a' := ?_) #[true, true, true, true, true, false, true, true, true, true, false, false, false] rfl rfl (any_of HT_.out (by kernel_rfl)) (fun _ _ _ h => h) (Or.inl ⟨by rfl, ?_⟩) ?_ ?_
    rotate_left
    ·intro w'
     go_simp
     with_reducible rfl
    rotate_left
    ·simp only [Act.put, List.setIfInBounds_toArray, List.set_cons_zero, List.set_cons_succ, i64_w, i32_w]
     rfl
    refine join_ (σ := Value × Value) 2 #[true, true, true, true, true, true, true, true, true, true, true, false, false] (fun s_ => [(29, s_.1), (34, s_.2)]) (fun s_ w' => (w'.cell? ⟨gb219, 0, none⟩ = some (.int .u64 a1_0) ∧ w'.cell? ⟨gb219, 1, none⟩ = some (.int .u64 a1_1)) ∧ (Kd.R k45 45 w' w.heap.size (fun k_ => some k_ ≠ (s_.2 : Value).ownBlock ∧ k_ ≠ gb219) s_.1 t221) ∧ (Kd.R k45 45 w' w.heap.size (fun k_ => some k_ ≠ (s_.1 : Value).ownBlock ∧ k_ ≠ gb219) s_.2 y224) ∧ (w'.heap[gb219]? = some (.cells #[.int .u64 a1_0, .int .u64 a1_1] 45 (0, 0))) ∧ (Below w.heap.size w w')) ?_ ?_
    rotate_left
    ·intro hCont
     refine two_ (i := 5) (j := 10) (Ni := some 29) (Nj := some 34) #[true, true, true, true, true, true, true, true, true, true, false, false, false] #[true, true, true, true, true, false, true, true, true, true, true, false, false] rfl rfl rfl rfl (two_of HT_.out (by kernel_rfl)) (by decide) (by decide) (fun K hK => ?_) (fun K hK => ?_)
     ·skip
      refine goes_ Tryd.func43 (by kernel_rfl) rfl #[.int .u64 a0, .agg #[.int .u64 a1_0, .int .u64 (IntKind.u64.wrap (a1_0 + t220))]] (by rfl) rfl rfl aV ?_
      with_reducible refine (ih k (by omega) a0 a1_0 (IntKind.u64.wrap (a1_0 + t220)) t221 _ A8.out).mono ?_
      rintro e w14 ⟨v222, rfl, ho0, hb⟩
      refine ⟨_, rfl, ?_⟩
      have n0_ := Aside0.mk (Kd.R_lower (Kd.R_newB ho0 (g := gb219) (o := .cells #[.int .u64 a1_0, .int .u64 a1_1] 45 (0, 0)) (kB BK219.out)) (below_size bB))
      have n1_ := Aside0.mk (blk_below (g := gb219) (o := .cells #[.int .u64 a1_0, .int .u64 a1_1] 45 (0, 0)) (kB BK219.out) hb)
      have n2_ := Aside0.mk (below_step bB hb)
      clear BK219
      clear HB
      have HO223 := n0_
      have BK219 := n1_
      have HB := n2_
      clear n0_ n1_ n2_
      (try clear hb)
      (try clear hb2)
      (try clear hk)
      (try clear hi)
      (try clear ho0)
      refine hK.out _ _ ⟨(blk_cell BK219.out 0).trans rfl, (blk_cell BK219.out 1).trans rfl⟩ (fun hHeld => ?_)
      clear hK K
      refine norm_ (a' := ?_) ?_ ?_
      rotate_left
      ·show Act.put _ (some 29) _ = _
       simp only [Act.put, List.setIfInBounds_toArray, List.set_cons_zero, List.set_cons_succ, i64_w, i32_w]
       rfl
      refine one_ (i := 10) (N := some 34) #[true, true, true, true, true, true, true, true, true, true, true, false, false] rfl rfl (one_of HT_.out (by kernel_rfl)) (by decide) (fun K hK => ?_)
      refine Kd.R_lit_step k45 _ 45 ?hg (N := 34) ?hd (xs := ([(⟨IntKind.u64.wrap (a1_0 + t220), a1_1⟩ : S45)] : List (S45))) (inner := [.int .u64 (IntKind.u64.wrap (a1_0 + t220)), .int .u64 a1_1]) (ok := fun _ => True) (okp := fun _ => True) ?hr ?hp (fun _ hk => hk) trivial (Below.refl _ _) (Nat.le_refl _) (by simp) ?_; (case hd => rfl); (case hg => rfl); (case hr => first | (go_simp; done) | (go_simp; rfl)); (case hp => exact (Reps.c2 (show Kd.M k45 _ _ _ (⟨IntKind.u64.wrap (a1_0 + t220), a1_1⟩ : S45) [.int .u64 (IntKind.u64.wrap (a1_0 + t220)), .int .u64 a1_1] from (k45_mkM _ _ _ (⟨IntKind.u64.wrap (a1_0 + t220), a1_1⟩ : S45) )) (Reps.none _ _)))
      intro v225 w15 ho16 hb hg_ hnew_
      clear hg_ hnew_
      (first | rw [← Ny224.out] at ho16 | (simp only [Int.reduceToNat] at ho16; rw [← Ny224.out] at ho16))
      have n0_ := Aside0.mk (Kd.R_elder' (kR HO223.out) (Kd.R_base ho16) hb)
      have n1_ := Aside0.mk (Kd.R_lower (Kd.R_newB (Kd.R_new' ho16 (Kd.R_lt (kR HO223.out))) (g := gb219) (o := .cells #[.int .u64 a1_0, .int .u64 a1_1] 45 (0, 0)) (kB BK219.out)) (below_size bB))
      have n2_ := Aside0.mk (blk_below (g := gb219) (o := .cells #[.int .u64 a1_0, .int .u64 a1_1] 45 (0, 0)) (kB BK219.out) hb)
      have n3_ := Aside0.mk (below_step bB hb)
      clear HO223
      clear BK219
      clear HB
      have HO223 := n0_
      have HO226 := n1_
      have BK219 := n2_
      have HB := n3_
      clear n0_ n1_ n2_ n3_
      clear hb ho16
      refine hK.out _ _ ⟨(blk_cell BK219.out 0).trans rfl, (blk_cell BK219.out 1).trans rfl⟩ (fun hHeld => ?_)
      clear hK K
      refine norm_ (a' := ?_) ?_ ?_
      rotate_left
      ·show Act.put _ (some 34) _ = _
       simp only [Act.put, List.setIfInBounds_toArray, List.set_cons_zero, List.set_cons_succ, i64_w, i32_w]
       rfl
      exact norm_ (by simp only [putAll, Act.put, List.setIfInBounds_toArray, List.set_cons_zero, List.set_cons_succ]) (hCont (v222, v225) _ ⟨hHeld, (by (with_reducible repeat (first | apply Kd.R_alloc | apply Kd.R_drewN | apply Kd.R_drew)); exact Kd.R_mono HO223.out (fun _ hk => ⟨hk.2, hk.1.2⟩)), (by (with_reducible repeat (first | apply Kd.R_alloc | apply Kd.R_drewN | apply Kd.R_drew)); exact Kd.R_mono HO226.out (fun _ hk => ⟨hk.1.2, hk.2⟩)), (kB BK219.out), bB⟩)
     ·skip
      refine Kd.R_lit_step k45 _ 45 ?hg (N := 34) ?hd (xs := ([(⟨IntKind.u64.wrap (a1_0 + t220), a1_1⟩ : S45)] : List (S45))) (inner := [.int .u64 (IntKind.u64.wrap (a1_0 + t220)), .int .u64 a1_1]) (ok := fun _ => True) (okp := fun _ => True) ?hr ?hp (fun _ hk => hk) trivial (Below.refl _ _) (Nat.le_refl _) (by simp) ?_; (case hd => rfl); (case hg => rfl); (case hr => first | (go_simp; done) | (go_simp; rfl)); (case hp => exact (Reps.c2 (show Kd.M k45 _ _ _ (⟨IntKind.u64.wrap (a1_0 + t220), a1_1⟩ : S45) [.int .u64 (IntKind.u64.wrap (a1_0 + t220)), .int .u64 a1_1] from (k45_mkM _ _ _ (⟨IntKind.u64.wrap (a1_0 + t220), a1_1⟩ : S45) )) (Reps.none _ _)))
      intro v225 w14 ho15 hb hg_ hnew_
      clear hg_ hnew_
      (first | rw [← Ny224.out] at ho15 | (simp only [Int.reduceToNat] at ho15; rw [← Ny224.out] at ho15))
      have n0_ := Aside0.mk (Kd.R_lower (Kd.R_newB ho15 (g := gb219) (o := .cells #[.int .u64 a1_0, .int .u64 a1_1] 45 (0, 0)) (kB BK219.out)) (below_size bB))
      have n1_ := Aside0.mk (blk_below (g := gb219) (o := .cells #[.int .u64 a1_0, .int .u64 a1_1] 45 (0, 0)) (kB BK219.out) hb)
      have n2_ := Aside0.mk (below_step bB hb)
      clear BK219
      clear HB
      have HO226 := n0_
      have BK219 := n1_
      have HB := n2_
      clear n0_ n1_ n2_
      clear hb ho15
      refine hK.out _ _ ⟨(blk_cell BK219.out 0).trans rfl, (blk_cell BK219.out 1).trans rfl⟩ (fun hHeld => ?_)
      clear hK K
      refine norm_ (a' := ?_) ?_ ?_
      rotate_left
      ·show Act.put _ (some 34) _ = _
       simp only [Act.put, List.setIfInBounds_toArray, List.set_cons_zero, List.set_cons_succ, i64_w, i32_w]
       rfl
      refine one_ (i := 5) (N := some 29) #[true, true, true, true, true, true, true, true, true, true, true, false, false] rfl rfl (one_of HT_.out (by kernel_rfl)) (by decide) (fun K hK => ?_)
      refine goes_ Tryd.func43 (by kernel_rfl) rfl #[.int .u64 a0, .agg #[.int .u64 a1_0, .int .u64 (IntKind.u64.wrap (a1_0 + t220))]] (by rfl) rfl rfl aV ?_
      with_reducible refine (ih k (by omega) a0 a1_0 (IntKind.u64.wrap (a1_0 + t220)) t221 _ A8.out).mono ?_
      rintro e w16 ⟨v222, rfl, ho0, hb⟩
      refine ⟨_, rfl, ?_⟩
      have n0_ := Aside0.mk (Kd.R_elder' (kR HO226.out) (Kd.R_base ho0) hb)
      have n1_ := Aside0.mk (Kd.R_lower (Kd.R_newB (Kd.R_new' ho0 (Kd.R_lt (kR HO226.out))) (g := gb219) (o := .cells #[.int .u64 a1_0, .int .u64 a1_1] 45 (0, 0)) (kB BK219.out)) (below_size bB))
      have n2_ := Aside0.mk (blk_below (g := gb219) (o := .cells #[.int .u64 a1_0, .int .u64 a1_1] 45 (0, 0)) (kB BK219.out) hb)
      have n3_ := Aside0.mk (below_step bB hb)
      clear HO226
      clear BK219
      clear HB
      have HO226 := n0_
      have HO223 := n1_
      have BK219 := n2_
      have HB := n3_
      clear n0_ n1_ n2_ n3_
      (try clear hb)
      (try clear hb2)
      (try clear hk)
      (try clear hi)
      (try clear ho0)
      refine hK.out _ _ ⟨(blk_cell BK219.out 0).trans rfl, (blk_cell BK219.out 1).trans rfl⟩ (fun hHeld => ?_)
      clear hK K
      refine norm_ (a' := ?_) ?_ ?_
      rotate_left
      ·show Act.put _ (some 29) _ = _
       simp only [Act.put, List.setIfInBounds_toArray, List.set_cons_zero, List.set_cons_succ, i64_w, i32_w]
       rfl
      exact norm_ (by simp only [putAll, Act.put, List.setIfInBounds_toArray, List.set_cons_zero, List.set_cons_succ]) (hCont (v222, v225) _ ⟨hHeld, (by (with_reducible repeat (first | apply Kd.R_alloc | apply Kd.R_drewN | apply Kd.R_drew)); exact Kd.R_mono HO223.out (fun _ hk => ⟨hk.1.2, hk.2⟩)), (by (with_reducible repeat (first | apply Kd.R_alloc | apply Kd.R_drewN | apply Kd.R_drew)); exact Kd.R_mono HO226.out (fun _ hk => ⟨hk.2, hk.1.2⟩)), (kB BK219.out), bB⟩)
    rintro ⟨v222, v225⟩ w17 ⟨hS_, h0_, h1_, h2_, h3_⟩
    have n0_ : Aside0 (Kd.R k45 45 w17 w.heap.size (fun k_ => some k_ ≠ (v225 : Value).ownBlock ∧ k_ ≠ gb219) v222 t221) := ⟨h0_⟩
    have n1_ : Aside0 (Kd.R k45 45 w17 w.heap.size (fun k_ => some k_ ≠ (v222 : Value).ownBlock ∧ k_ ≠ gb219) v225 y224) := ⟨h1_⟩
    have n2_ : Aside0 (w17.heap[gb219]? = some (.cells #[.int .u64 a1_0, .int .u64 a1_1] 45 (0, 0))) := ⟨h2_⟩
    have n3_ : Aside0 (Below w.heap.size w w17) := ⟨h3_⟩
    clear BK219
    clear HB
    clear h0_ h1_ h2_ h3_
    have HO223 := n0_
    have HO226 := n1_
    have BK219 := n2_
    have HB := n3_
    clear n0_ n1_ n2_ n3_
    have hHeld : w17.cell? ⟨gb219, 0, none⟩ = some (.int .u64 a1_0) ∧ w17.cell? ⟨gb219, 1, none⟩ = some (.int .u64 a1_1) := hS_
    obtain ⟨Ao19, co19, eo19⟩ := Kd.R_slice HO226.out
    (first | subst eo19 | (injection eo19 with f1_ f2_ f3_; have f4_ := f1_.symm; have f5_ := f3_.symm; clear f1_ f2_ f3_; subst f4_; subst f5_))
    refine norm_ (a' := ?_) ?_ ?_
    rotate_left
    ·simp only [putAll, Act.put, List.setIfInBounds_toArray, List.set_cons_zero, List.set_cons_succ]
     rfl
    refine one_ (i := 11) (N := some 35) #[true, true, true, true, true, true, true, true, true, true, true, true, false] rfl rfl (one_of HT_.out (by kernel_rfl)) (by decide) (fun K hK => ?_)
    refine Kd.R_append_rows_step k45 (w0 := w) w.heap.size (by rfl) (.tmp 29) (.tmp 34) 65 45 (.agg #[(.int .u64 0), (.int .u64 0)]) 16 rfl Tryd.underlying65 info45 rfl (by decide) (by omega) v222 t221 y224 _ _ _ (fun k_ => some k_ ≠ (.slice Ao19 y224.length co19 : Value).ownBlock ∧ k_ ≠ gb219) (fun _ => False) rfl rfl ?aO ?aR (fun _ _ h => h) (fun _ h => h.elim) ?aF ?aB ?aS ?aL ?_
    (case aR => repeat (first | exact (Kd.R_reads' HO226.out).2.2 | (with_reducible refine Kd.C_alloc ?_ _) | (with_reducible refine Kd.C_drewN ?_ _) | (with_reducible refine Kd.C_drew ?_)))
    (case aB => exact bB)
    (case aF => exact (fun k_ hk => ⟨Kd.fresh' (Kd.R_lt (kR HO226.out)) k_ hk, Kd.freshB (g := gb219) (o := .cells #[.int .u64 a1_0, .int .u64 a1_1] 45 (0, 0)) (kB BK219.out) k_ hk⟩))
    (case aO => exact (kR HO223.out))
    (case aS => exact (below_size bB))
    (case aL => have := LMc9.out; omega)
    intro v228 w18 ho hb hg hat
    rw [← Ny227.out] at ho
    have n0_ := Aside0.mk (blk_grown (g := gb219) (o := .cells #[.int .u64 a1_0, .int .u64 a1_1] 45 (0, 0)) (kB BK219.out) hg (Kd.R_away HO223.out (fun _ hk => hk.2)))
    have n1_ := Aside0.mk (Kd.R_after (ok := (fun k_ => k_ ≠ gb219)) (by (with_reducible repeat (first | apply Kd.R_alloc | apply Kd.R_drewN | apply Kd.R_drew)); exact Kd.R_mono HO226.out (fun _ hk => ⟨hk.2, hk.1⟩)) hg hat)
    have n2_ := Aside0.mk (hb)
    have n3_ := Aside0.mk (ho)
    clear BK219
    clear HO226
    clear HB
    clear HO223
    have BK219 := n0_
    have HO226 := n1_
    have HB := n2_
    have HO229 := n3_
    clear n0_ n1_ n2_ n3_
    clear ho hb hg hat
    refine hK.out _ _ ⟨(blk_cell BK219.out 0).trans rfl, (blk_cell BK219.out 1).trans rfl⟩ (fun hHeld => ?_)
    clear hK K
    refine norm_ (a' := ?_) ?_ ?_
    rotate_left
    ·show Act.put _ (some 35) _ = _
     simp only [Act.put, List.setIfInBounds_toArray, List.set_cons_zero, List.set_cons_succ, i64_w, i32_w]
     rfl
    refine pure_ (i := 12) (N := some 4) (v := ?_) (a' := ?_) #[true, true, true, true, true, true, true, true, true, true, true, true, true] rfl rfl (any_of HT_.out (by kernel_rfl)) (fun _ _ _ h => h) (Or.inl ⟨by rfl, ?_⟩) ?_ ?_
    rotate_left
    ·intro w'
     go_simp
     with_reducible rfl
    rotate_left
    ·simp only [Act.put, List.setIfInBounds_toArray, List.set_cons_zero, List.set_cons_succ, i64_w, i32_w]
     rfl
    refine done_ (done_of HT_.out (by kernel_rfl)) ?_
    try go_wp2
    go_ret
    exact ⟨_, by first | rfl | (simp [errW_none, errW_some] <;> rfl) | (simp [*, errW_none, errW_some] <;> rfl), by (with_reducible repeat (first | apply Kd.R_alloc | apply Kd.R_drewN | apply Kd.R_drew)); exact Kd.R_mono HO229.out (fun _ hk => trivial), bB⟩
   ·rw [if_neg c9] at H
    exact absurd H (by simp)
  ·rw [if_neg c7] at H
   have c7b0 : decide (a0 < (IntKind.u64.wrap (a1_0 + t220))) = false := decide_eq_false c7
   clear c7
   replace H := Option.bind_eq_some_iff.mp H
   obtain ⟨t230, A200, H⟩ := H
   replace H : ((some (([(⟨a1_0, IntKind.u64.wrap (a1_0 + t220)⟩ : S45)] : List (S45)) : List (S45))).bind fun y233 => (if t230.length + y233.length < 8796093022208 then (some (t230 ++ y233)) else (none))) = some r := H
   have A20 := Aside0.mk A200
   clear A200
   obtain ⟨y233, hy233⟩ : ∃ y_ : List (S45), y_ = (([(⟨a1_0, IntKind.u64.wrap (a1_0 + t220)⟩ : S45)] : List (S45))) := ⟨_, rfl⟩
   replace H : (if t230.length + y233.length < 8796093022208 then (some (t230 ++ y233)) else (none)) = some r := by first | (rw [hy233]; with_reducible exact H) | (have H2_ := (Option.bind_some _ _).symm.trans H; rw [hy233]; with_reducible exact H2_) | (have H2_ := (Option.bind_some _ _).symm.trans H; with_reducible exact H2_) | with_reducible exact H | (rw [hy233]; exact H) | exact H
   have Ny233 := Aside0.mk hy233
   clear hy233
   by_cases c21 : t230.length + y233.length < 8796093022208
   ·rw [if_pos c21] at H
    have LMc21 := Aside0.mk c21
    clear c21
    obtain ⟨y236, hy236⟩ : ∃ y_ : List (S45), y_ = (t230 ++ y233) := ⟨_, rfl⟩
    replace H : (some y236) = some r := by first | (rw [hy236]; with_reducible exact H) | (have H2_ := (Option.bind_some _ _).symm.trans H; rw [hy236]; with_reducible exact H2_) | (have H2_ := (Option.bind_some _ _).symm.trans H; with_reducible exact H2_) | with_reducible exact H | (rw [hy236]; exact H) | exact H
    have Ny236 := Aside0.mk hy236
    clear hy236
    obtain rfl := Option.some.inj H
    go_enter Tryd.func43, Tryd.ntmps43
    try go_wp2_with (first | ((with_reducible refine gate_dst (N := 3) rfl ?_); refine box_event ?hg (N := 3) ?hd (cs := #[.int .u64 a1_0, .int .u64 a1_1]) (t := 45) ?hr ?_; (case hd => rfl); (case hg => rfl); (case hr => first | (go_simp; done) | (go_simp; rfl)); intro gb219 hg w22 hbox hb; have n0_ := Aside0.mk (below_step bB hb); have n1_ := Aside0.mk (hbox); have n2_ := Aside0.mk ((by rw [hg]; exact (below_size bB) : w.heap.size ≤ gb219)); have n3_ := Aside0.mk ((by rw [hg]; exact (below_size bB) : w.heap.size ≤ gb219)); clear HB; have HB := n0_; have BK219 := n1_; have GW219 := n2_; have GE219 := n3_; clear n0_ n1_ n2_ n3_; clear hb hbox hg; have hcz23_0 : w22.cell? ⟨gb219, 0, none⟩ = some (.int .u64 a1_0) := (blk_cell BK219.out 0).trans rfl; have hcz23_1 : w22.cell? ⟨gb219, 1, none⟩ = some (.int .u64 a1_1) := (blk_cell BK219.out 1).trans rfl; have hfz23_0 := blk_frozen BK219.out 0; have hfz23_1 := blk_frozen BK219.out 1))
    have n0_ := Aside0.mk (blk_drew BK219.out)
    have n1_ := Aside0.mk (below_drew1 HB.out)
    clear BK219
    clear HB
    have BK219 := n0_
    have HB := n1_
    clear n0_ n1_
    refine start_ (n := 10) (S := fun w' => w'.cell? ⟨gb219, 0, none⟩ = some (.int .u64 a1_0) ∧ w'.cell? ⟨gb219, 1, none⟩ = some (.int .u64 a1_1)) (ds := []) #[false, false, false, false, false, false, false, false, false, false] (by kernel_rfl) rfl rfl ⟨(blk_cell BK219.out 0).trans rfl, (blk_cell BK219.out 1).trans rfl⟩ (fun hHeld => ?_); refine with_tabW spec_pathIn.tab3 spec_pathIn.bits3 (fun HT_ HW_ => ?_)
    generalize w22.drew = w24 at BK219 HB hHeld ⊢
    refine pure_ (i := 0) (N := some 12) (v := ?_) (a' := ?_) #[true, false, false, false, false, false, false, false, false, false] rfl rfl (any_of HT_.out (by kernel_rfl)) (fun _ _ _ h => h) (Or.inl ⟨by rfl, ?_⟩) ?_ ?_
    rotate_left
    ·intro w'
     go_simp
     with_reducible rfl
    rotate_left
    ·simp only [Act.put, List.setIfInBounds_toArray, List.set_cons_zero, List.set_cons_succ, i64_w, i32_w]
     rfl
    refine pure_ (i := 2) (N := some 14) (v := ?_) (a' := ?_) #[true, false, true, false, false, false, false, false, false, false] rfl rfl (any_of HT_.out (by kernel_rfl)) (fun _ _ _ h => h) (Or.inl ⟨by rfl, ?_⟩) ?_ ?_
    rotate_left
    ·intro w'
     go_simp
     with_reducible rfl
    rotate_left
    ·simp only [Act.put, List.setIfInBounds_toArray, List.set_cons_zero, List.set_cons_succ, i64_w, i32_w]
     rfl
    refine pure_ (i := 4) (N := some 16) (v := ?_) (a' := ?_) #[true, false, true, false, true, false, false, false, false, false] rfl rfl (any_of HT_.out (by kernel_rfl)) (fun _ _ _ h => h) (Or.inl ⟨by rfl, ?_⟩) ?_ ?_
    rotate_left
    ·intro w'
     go_simp
     with_reducible rfl
    rotate_left
    ·simp only [Act.put, List.setIfInBounds_toArray, List.set_cons_zero, List.set_cons_succ, i64_w, i32_w]
     rfl
    refine take_ (i := 1) (N := some 13) (v := ?_) (a' := ?_) #[true, true, true, false, true, false, false, false, false, false] rfl rfl (take_ofW HT_.out HW_.out (by kernel_rfl)) (fun _ _ _ h => h) (Or.inl ⟨by rfl, ?_⟩) hHeld ?_ ?_
    rotate_left
    ·rintro w' ⟨s0, s1⟩
     go_simp
     with_reducible rfl
    rotate_left
    ·simp only [Act.put, List.setIfInBounds_toArray, List.set_cons_zero, List.set_cons_succ, i64_w, i32_w]
     rfl
    refine take_ (i := 3) (N := some 15) (v := ?_) (a' := ?_) #[true, true, true, true, true, false, false, false, false, false] rfl rfl (take_ofW HT_.out HW_.out (by kernel_rfl)) (fun _ _ _ h => h) (Or.inl ⟨by rfl, ?_⟩) hHeld ?_ ?_
    rotate_left
    ·rintro w' ⟨s0, s1⟩
     go_simp
     with_reducible rfl
    rotate_left
    ·simp only [Act.put, List.setIfInBounds_toArray, List.set_cons_zero, List.set_cons_succ, i64_w, i32_w]
     rfl
    refine take_ (i := 5) (N := some 17) (v := ?_) (a' := ?_) #[true, true, true, true, true, true, false, false, false, false] rfl rfl (take_ofW HT_.out HW_.out (by kernel_rfl)) (fun _ _ _ h => h) (Or.inl ⟨by rfl, ?_⟩) hHeld ?_ ?_
    rotate_left
    ·rintro w' ⟨s0, s1⟩
     go_simp
     with_reducible rfl
    rotate_left
    ·simp only [Act.put, List.setIfInBounds_toArray, List.set_cons_zero, List.set_cons_succ, i64_w, i32_w]
     rfl
    refine pure_ (i := 6) (N := some 18) (v := ?_) (a' := ?_) #[true, true, true, true, true, true, true, false, false, false] rfl rfl (any_of HT_.out (by kernel_rfl)) (fun _ _ _ h => h) (Or.inl ⟨by rfl, ?_⟩) ?_ ?_
    rotate_left
    ·intro w'
     go_simp
     with_reducible rfl
    rotate_left
    ·simp only [Act.put, List.setIfInBounds_toArray, List.set_cons_zero, List.set_cons_succ, i64_w, i32_w]
     rfl
    refine one_ (i := 7) (N := some 19) #[true, true, true, true, true, true, true, true, false, false] rfl rfl (one_of HT_.out (by kernel_rfl)) (by decide) (fun K hK => ?_)
    refine goes_ Tryd.func48 (by kernel_rfl) rfl #[.int .u64 (IntKind.u64.wrap (a1_1 - a1_0))] (by rfl) rfl rfl aV ?_
    with_reducible refine (spec_split.calls k (IntKind.u64.wrap (a1_1 - a1_0)) t220 _ A6.out).mono ?_
    rintro e w' ⟨rfl, ⟨nd, rfl⟩⟩
    refine ⟨_, rfl, ?_⟩
    refine hK.out _ _ ⟨(blk_cell BK219.out 0).trans rfl, (blk_cell BK219.out 1).trans rfl⟩ (fun hHeld => ?_)
    clear hK K
    refine norm_ (a' := ?_) ?_ ?_
    rotate_left
    ·show Act.put _ (some 19) _ = _
     simp only [Act.put, List.setIfInBounds_toArray, List.set_cons_zero, List.set_cons_succ, i64_w, i32_w]
     rfl
    refine pure_ (i := 8) (N := some 20) (v := ?_) (a' := ?_) #[true, true, true, true, true, true, true, true, true, false] rfl rfl (any_of HT_.out (by kernel_rfl)) (fun _ _ _ h => h) (Or.inl ⟨by rfl, ?_⟩) ?_ ?_
    rotate_left
    ·intro w'
     go_simp
     with_reducible rfl
    rotate_left
    ·simp only [Act.put, List.setIfInBounds_toArray, List.set_cons_zero, List.set_cons_succ, i64_w, i32_w]
     rfl
    refine pure_ (i := 9) (N := some 5) (v := ?_) (a' := ?_) #[true, true, true, true, true, true, true, true, true, true] rfl rfl (any_of HT_.out (by kernel_rfl)) (fun _ _ _ h => h) (Or.inl ⟨by rfl, ?_⟩) ?_ ?_
    rotate_left
    ·intro w'
     go_simp
     with_reducible rfl
    rotate_left
    ·simp only [Act.put, List.setIfInBounds_toArray, List.set_cons_zero, List.set_cons_succ, i64_w, i32_w]
     rfl
    refine done_ (done_of HT_.out (by kernel_rfl)) ?_
    try go_wp2
    (try (rw [drewN_self w24]; generalize hq_ : World.drewN w24 _ = w24; have n0_ : Aside0 (w24.heap[gb219]? = some (.cells #[.int .u64 a1_0, .int .u64 a1_1] 45 (0, 0))) := ⟨by rw [← hq_]; exact (kB BK219.out)⟩; have n1_ : Aside0 (Below w.heap.size w w24) := ⟨by rw [← hq_]; exact bB⟩; clear BK219 HB hq_; have BK219 := n0_; have HB := n1_; clear n0_ n1_))
    have n0_ := Aside0.mk (blk_drew BK219.out)
    have n1_ := Aside0.mk (below_drew1 HB.out)
    clear BK219
    clear HB
    have BK219 := n0_
    have HB := n1_
    clear n0_ n1_
    refine start_ (n := 13) (S := fun w' => w'.cell? ⟨gb219, 0, none⟩ = some (.int .u64 a1_0) ∧ w'.cell? ⟨gb219, 1, none⟩ = some (.int .u64 a1_1)) (ds := []) #[false, false, false, false, false, false, false, false, false, false, false, false, false] (by kernel_rfl) rfl rfl ⟨(blk_cell BK219.out 0).trans rfl, (blk_cell BK219.out 1).trans rfl⟩ (fun hHeld => ?_); refine with_tabW spec_pathIn.tab6 spec_pathIn.bits6 (fun HT_ HW_ => ?_)
    generalize w24.drew = w25 at BK219 HB hHeld ⊢
    refine pure_ (i := 0) (N := some 36) (v := ?_) (a' := ?_) #[true, false, false, false, false, false, false, false, false, false, false, false, false] rfl rfl (any_of HT_.out (by kernel_rfl)) (fun _ _ _ h => h) (Or.inl ⟨by rfl, ?_⟩) ?_ ?_
    rotate_left
    ·intro w'
     go_simp
     with_reducible rfl
    rotate_left
    ·simp only [Act.put, List.setIfInBounds_toArray, List.set_cons_zero, List.set_cons_succ, i64_w, i32_w]
     rfl
    refine pure_ (i := 1) (N := some 37) (v := ?_) (a' := ?_) #[true, true, false, false, false, false, false, false, false, false, false, false, false] rfl rfl (any_of HT_.out (by kernel_rfl)) (fun _ _ _ h => h) (Or.inl ⟨by rfl, ?_⟩) ?_ ?_
    rotate_left
    ·intro w'
     go_simp
     with_reducible rfl
    rotate_left
    ·simp only [Act.put, List.setIfInBounds_toArray, List.set_cons_zero, List.set_cons_succ, i64_w, i32_w]
     rfl
    refine pure_ (i := 2) (N := some 38) (v := ?_) (a' := ?_) #[true, true, true, false, false, false, false, false, false, false, false, false, false] rfl rfl (any_of HT_.out (by kernel_rfl)) (fun _ _ _ h => h) (Or.inl ⟨by rfl, ?_⟩) ?_ ?_
    rotate_left
    ·intro w'
     go_simp
     with_reducible rfl
    rotate_left
    ·simp only [Act.put, List.setIfInBounds_toArray, List.set_cons_zero, List.set_cons_succ, i64_w, i32_w]
     rfl
    refine pure_ (i := 6) (N := some 42) (v := ?_) (a' := ?_) #[true, true, true, false, false, false, true, false, false, false, false, false, false] rfl rfl (any_of HT_.out (by kernel_rfl)) (fun _ _ _ h => h) (Or.inl ⟨by rfl, ?_⟩) ?_ ?_
    rotate_left
    ·intro w'
     go_simp
     with_reducible rfl
    rotate_left
    ·simp only [Act.put, List.setIfInBounds_toArray, List.set_cons_zero, List.set_cons_succ, i64_w, i32_w]
     rfl
    refine pure_ (i := 8) (N := some 44) (v := ?_) (a' := ?_) #[true, true, true, false, false, false, true, false, true, false, false, false, false] rfl rfl (any_of HT_.out (by kernel_rfl)) (fun _ _ _ h => h) (Or.inl ⟨by rfl, ?_⟩) ?_ ?_
    rotate_left
    ·intro w'
     go_simp
     with_reducible rfl
    rotate_left
    ·simp only [Act.put, List.setIfInBounds_toArray, List.set_cons_zero, List.set_cons_succ, i64_w, i32_w]
     rfl
    refine take_ (i := 3) (N := some 39) (v := ?_) (a' := ?_) #[true, true, true, true, false, false, true, false, true, false, false, false, false] rfl rfl (take_ofW HT_.out HW_.out (by kernel_rfl)) (fun _ _ _ h => h) (Or.inl ⟨by rfl, ?_⟩) hHeld ?_ ?_
    rotate_left
    ·rintro w' ⟨s0, s1⟩
     go_simp
     with_reducible rfl
    rotate_left
    ·simp only [Act.put, List.setIfInBounds_toArray, List.set_cons_zero, List.set_cons_succ, i64_w, i32_w]
     rfl
    refine pure_ (i := 4) (N := some 40) (v := ?_) (a' := ?_) #[true, true, true, true, true, false, true, false, true, false, false, false, false] rfl rfl (any_of HT_.out (by kernel_rfl)) (fun _ _ _ h => h) (Or.inl ⟨by rfl, ?_⟩) ?_ ?_
    rotate_left
    ·intro w'
     go_simp
     with_reducible rfl
    rotate_left
    ·simp only [Act.put, List.setIfInBounds_toArray, List.set_cons_zero, List.set_cons_succ, i64_w, i32_w]
     rfl
    refine take_ (i := 7) (N := some 43) (v := ?_) (a' := ?_) #[true, true, true, true, true, false, true, true, true, false, false, false, false] rfl rfl (take_ofW HT_.out HW_.out (by kernel_rfl)) (fun _ _ _ h => h) (Or.inl ⟨by rfl, ?_⟩) hHeld ?_ ?_
    rotate_left
    ·rintro w' ⟨s0, s1⟩
     go_simp
     with_reducible rfl
    rotate_left
    ·simp only [Act.put, List.setIfInBounds_toArray, List.set_cons_zero, List.set_cons_succ, i64_w, i32_w]
     rfl
    refine pure_ (i := 9) (N := some 45) (v := ?_) (a' := ?_) #[true, true, true, true, true, false, true, true, true, true, false, false, false] rfl rfl (any_of HT_.out (by kernel_rfl)) (fun _ _ _ h => h) (Or.inl ⟨by rfl, ?_⟩) ?_ ?_
    rotate_left
    ·intro w'
     go_simp
     with_reducible rfl
    rotate_left
    ·simp only [Act.put, List.setIfInBounds_toArray, List.set_cons_zero, List.set_cons_succ, i64_w, i32_w]
     rfl
    refine join_ (σ := Value × Value) 2 #[true, true, true, true, true, true, true, true, true, true, true, false, false] (fun s_ => [(41, s_.1), (46, s_.2)]) (fun s_ w' => (w'.cell? ⟨gb219, 0, none⟩ = some (.int .u64 a1_0) ∧ w'.cell? ⟨gb219, 1, none⟩ = some (.int .u64 a1_1)) ∧ (Kd.R k45 45 w' w.heap.size (fun k_ => some k_ ≠ (s_.2 : Value).ownBlock ∧ k_ ≠ gb219) s_.1 t230) ∧ (Kd.R k45 45 w' w.heap.size (fun k_ => some k_ ≠ (s_.1 : Value).ownBlock ∧ k_ ≠ gb219) s_.2 y233) ∧ (w'.heap[gb219]? = some (.cells #[.int .u64 a1_0, .int .u64 a1_1] 45 (0, 0))) ∧ (Below w.heap.size w w')) ?_ ?_
    rotate_left
    ·intro hCont
     refine two_ (i := 5) (j := 10) (Ni := some 41) (Nj := some 46) #[true, true, true, true, true, true, true, true, true, true, false, false, false] #[true, true, true, true, true, false, true, true, true, true, true, false, false] rfl rfl rfl rfl (two_of HT_.out (by kernel_rfl)) (by decide) (by decide) (fun K hK => ?_) (fun K hK => ?_)
     ·skip
      refine goes_ Tryd.func43 (by kernel_rfl) rfl #[.int .u64 a0, .agg #[.int .u64 (IntKind.u64.wrap (a1_0 + t220)), .int .u64 a1_1]] (by rfl) rfl rfl aV ?_
      with_reducible refine (ih k (by omega) a0 (IntKind.u64.wrap (a1_0 + t220)) a1_1 t230 _ A20.out).mono ?_
      rintro e w26 ⟨v231, rfl, ho0, hb⟩
      refine ⟨_, rfl, ?_⟩
      have n0_ := Aside0.mk (Kd.R_lower (Kd.R_newB ho0 (g := gb219) (o := .cells #[.int .u64 a1_0, .int .u64 a1_1] 45 (0, 0)) (kB BK219.out)) (below_size bB))
      have n1_ := Aside0.mk (blk_below (g := gb219) (o := .cells #[.int .u64 a1_0, .int .u64 a1_1] 45 (0, 0)) (kB BK219.out) hb)
      have n2_ := Aside0.mk (below_step bB hb)
      clear BK219
      clear HB
      have HO232 := n0_
      have BK219 := n1_
      have HB := n2_
      clear n0_ n1_ n2_
      (try clear hb)
      (try clear hb2)
      (try clear hk)
      (try clear hi)
      (try clear ho0)
      refine hK.out _ _ ⟨(blk_cell BK219.out 0).trans rfl, (blk_cell BK219.out 1).trans rfl⟩ (fun hHeld => ?_)
      clear hK K
      refine norm_ (a' := ?_) ?_ ?_
      rotate_left
      ·show Act.put _ (some 41) _ = _
       simp only [Act.put, List.setIfInBounds_toArray, List.set_cons_zero, List.set_cons_succ, i64_w, i32_w]
       rfl
      refine one_ (i := 10) (N := some 46) #[true, true, true, true, true, true, true, true, true, true, true, false, false] rfl rfl (one_of HT_.out (by kernel_rfl)) (by decide) (fun K hK => ?_)
      refine Kd.R_lit_step k45 _ 45 ?hg (N := 46) ?hd (xs := ([(⟨a1_0, IntKind.u64.wrap (a1_0 + t220)⟩ : S45)] : List (S45))) (inner := [.int .u64 a1_0, .int .u64 (IntKind.u64.wrap (a1_0 + t220))]) (ok := fun _ => True) (okp := fun _ => True) ?hr ?hp (fun _ hk => hk) trivial (Below.refl _ _) (Nat.le_refl _) (by simp) ?_; (case hd => rfl); (case hg => rfl); (case hr => first | (go_simp; done) | (go_simp; rfl)); (case hp => exact (Reps.c2 (show Kd.M k45 _ _ _ (⟨a1_0, IntKind.u64.wrap (a1_0 + t220)⟩ : S45) [.int .u64 a1_0, .int .u64 (IntKind.u64.wrap (a1_0 + t220))] from (k45_mkM _ _ _ (⟨a1_0, IntKind.u64.wrap (a1_0 + t220)⟩ : S45) )) (Reps.none _ _)))
      intro v234 w27 ho28 hb hg_ hnew_
      clear hg_ hnew_
      (first | rw [← Ny233.out] at ho28 | (simp only [Int.reduceToNat] at ho28; rw [← Ny233.out] at ho28))
      have n0_ := Aside0.mk (Kd.R_elder' (kR HO232.out) (Kd.R_base ho28) hb)
      have n1_ := Aside0.mk (Kd.R_lower (Kd.R_newB (Kd.R_new' ho28 (Kd.R_lt (kR HO232.out))) (g := gb219) (o := .cells #[.int .u64 a1_0, .int .u64 a1_1] 45 (0, 0)) (kB BK219.out)) (below_size bB))
      have n2_ := Aside0.mk (blk_below (g := gb219) (o := .cells #[.int .u64 a1_0, .int .u64 a1_1] 45 (0, 0)) (kB BK219.out) hb)
      have n3_ := Aside0.mk (below_step bB hb)
      clear HO232
      clear BK219
      clear HB
      have HO232 := n0_
      have HO235 := n1_
      have BK219 := n2_
      have HB := n3_
      clear n0_ n1_ n2_ n3_
      clear hb ho28
      refine hK.out _ _ ⟨(blk_cell BK219.out 0).trans rfl, (blk_cell BK219.out 1).trans rfl⟩ (fun hHeld => ?_)
      clear hK K
      refine norm_ (a' := ?_) ?_ ?_
      rotate_left
      ·show Act.put _ (some 46) _ = _
       simp only [Act.put, List.setIfInBounds_toArray, List.set_cons_zero, List.set_cons_succ, i64_w, i32_w]
       rfl
      exact norm_ (by simp only [putAll, Act.put, List.setIfInBounds_toArray, List.set_cons_zero, List.set_cons_succ]) (hCont (v231, v234) _ ⟨hHeld, (by (with_reducible repeat (first | apply Kd.R_alloc | apply Kd.R_drewN | apply Kd.R_drew)); exact Kd.R_mono HO232.out (fun _ hk => ⟨hk.2, hk.1.2⟩)), (by (with_reducible repeat (first | apply Kd.R_alloc | apply Kd.R_drewN | apply Kd.R_drew)); exact Kd.R_mono HO235.out (fun _ hk => ⟨hk.1.2, hk.2⟩)), (kB BK219.out), bB⟩)
     ·skip
      refine Kd.R_lit_step k45 _ 45 ?hg (N := 46) ?hd (xs := ([(⟨a1_0, IntKind.u64.wrap (a1_0 + t220)⟩ : S45)] : List (S45))) (inner := [.int .u64 a1_0, .int .u64 (IntKind.u64.wrap (a1_0 + t220))]) (ok := fun _ => True) (okp := fun _ => True) ?hr ?hp (fun _ hk => hk) trivial (Below.refl _ _) (Nat.le_refl _) (by simp) ?_; (case hd => rfl); (case hg => rfl); (case hr => first | (go_simp; done) | (go_simp; rfl)); (case hp => exact (Reps.c2 (show Kd.M k45 _ _ _ (⟨a1_0, IntKind.u64.wrap (a1_0 + t220)⟩ : S45) [.int .u64 a1_0, .int .u64 (IntKind.u64.wrap (a1_0 + t220))] from (k45_mkM _ _ _ (⟨a1_0, IntKind.u64.wrap (a1_0 + t220)⟩ : S45) )) (Reps.none _ _)))
      intro v234 w26 ho27 hb hg_ hnew_
      clear hg_ hnew_
      (first | rw [← Ny233.out] at ho27 | (simp only [Int.reduceToNat] at ho27; rw [← Ny233.out] at ho27))
      have n0_ := Aside0.mk (Kd.R_lower (Kd.R_newB ho27 (g := gb219) (o := .cells #[.int .u64 a1_0, .int .u64 a1_1] 45 (0, 0)) (kB BK219.out)) (below_size bB))
      have n1_ := Aside0.mk (blk_below (g := gb219) (o := .cells #[.int .u64 a1_0, .int .u64 a1_1] 45 (0, 0)) (kB BK219.out) hb)
      have n2_ := Aside0.mk (below_step bB hb)
      clear BK219
      clear HB
      have HO235 := n0_
      have BK219 := n1_
      have HB := n2_
      clear n0_ n1_ n2_
      clear hb ho27
      refine hK.out _ _ ⟨(blk_cell BK219.out 0).trans rfl, (blk_cell BK219.out 1).trans rfl⟩ (fun hHeld => ?_)
      clear hK K
      refine norm_ (a' := ?_) ?_ ?_
      rotate_left
      ·show Act.put _ (some 46) _ = _
       simp only [Act.put, List.setIfInBounds_toArray, List.set_cons_zero, List.set_cons_succ, i64_w, i32_w]
       rfl
      refine one_ (i := 5) (N := some 41) #[true, true, true, true, true, true, true, true, true, true, true, false, false] rfl rfl (one_of HT_.out (by kernel_rfl)) (by decide) (fun K hK => ?_)
      refine goes_ Tryd.func43 (by kernel_rfl) rfl #[.int .u64 a0, .agg #[.int .u64 (IntKind.u64.wrap (a1_0 + t220)), .int .u64 a1_1]] (by rfl) rfl rfl aV ?_
      with_reducible refine (ih k (by omega) a0 (IntKind.u64.wrap (a1_0 + t220)) a1_1 t230 _ A20.out).mono ?_
      rintro e w28 ⟨v231, rfl, ho0, hb⟩
      refine ⟨_, rfl, ?_⟩
      have n0_ := Aside0.mk (Kd.R_elder' (kR HO235.out) (Kd.R_base ho0) hb)
      have n1_ := Aside0.mk (Kd.R_lower (Kd.R_newB (Kd.R_new' ho0 (Kd.R_lt (kR HO235.out))) (g := gb219) (o := .cells #[.int .u64 a1_0, .int .u64 a1_1] 45 (0, 0)) (kB BK219.out)) (below_size bB))
      have n2_ := Aside0.mk (blk_below (g := gb219) (o := .cells #[.int .u64 a1_0, .int .u64 a1_1] 45 (0, 0)) (kB BK219.out) hb)
      have n3_ := Aside0.mk (below_step bB hb)
      clear HO235
      clear BK219
      clear HB
      have HO235 := n0_
      have HO232 := n1_
      have BK219 := n2_
      have HB := n3_
      clear n0_ n1_ n2_ n3_
      (try clear hb)
      (try clear hb2)
      (try clear hk)
      (try clear hi)
      (try clear ho0)
      refine hK.out _ _ ⟨(blk_cell BK219.out 0).trans rfl, (blk_cell BK219.out 1).trans rfl⟩ (fun hHeld => ?_)
      clear hK K
      refine norm_ (a' := ?_) ?_ ?_
      rotate_left
      ·show Act.put _ (some 41) _ = _
       simp only [Act.put, List.setIfInBounds_toArray, List.set_cons_zero, List.set_cons_succ, i64_w, i32_w]
       rfl
      exact norm_ (by simp only [putAll, Act.put, List.setIfInBounds_toArray, List.set_cons_zero, List.set_cons_succ]) (hCont (v231, v234) _ ⟨hHeld, (by (with_reducible repeat (first | apply Kd.R_alloc | apply Kd.R_drewN | apply Kd.R_drew)); exact Kd.R_mono HO232.out (fun _ hk => ⟨hk.1.2, hk.2⟩)), (by (with_reducible repeat (first | apply Kd.R_alloc | apply Kd.R_drewN | apply Kd.R_drew)); exact Kd.R_mono HO235.out (fun _ hk => ⟨hk.2, hk.1.2⟩)), (kB BK219.out), bB⟩)
    rintro ⟨v231, v234⟩ w29 ⟨hS_, h0_, h1_, h2_, h3_⟩
    have n0_ : Aside0 (Kd.R k45 45 w29 w.heap.size (fun k_ => some k_ ≠ (v234 : Value).ownBlock ∧ k_ ≠ gb219) v231 t230) := ⟨h0_⟩
    have n1_ : Aside0 (Kd.R k45 45 w29 w.heap.size (fun k_ => some k_ ≠ (v231 : Value).ownBlock ∧ k_ ≠ gb219) v234 y233) := ⟨h1_⟩
    have n2_ : Aside0 (w29.heap[gb219]? = some (.cells #[.int .u64 a1_0, .int .u64 a1_1] 45 (0, 0))) := ⟨h2_⟩
    have n3_ : Aside0 (Below w.heap.size w w29) := ⟨h3_⟩
    clear BK219
    clear HB
    clear h0_ h1_ h2_ h3_
    have HO232 := n0_
    have HO235 := n1_
    have BK219 := n2_
    have HB := n3_
    clear n0_ n1_ n2_ n3_
    have hHeld : w29.cell? ⟨gb219, 0, none⟩ = some (.int .u64 a1_0) ∧ w29.cell? ⟨gb219, 1, none⟩ = some (.int .u64 a1_1) := hS_
    obtain ⟨Ao31, co31, eo31⟩ := Kd.R_slice HO235.out
    (first | subst eo31 | (injection eo31 with f1_ f2_ f3_; have f4_ := f1_.symm; have f5_ := f3_.symm; clear f1_ f2_ f3_; subst f4_; subst f5_))
    refine norm_ (a' := ?_) ?_ ?_
    rotate_left
    ·simp only [putAll, Act.put, List.setIfInBounds_toArray, List.set_cons_zero, List.set_cons_succ]
     rfl
    refine one_ (i := 11) (N := some 47) #[true, true, true, true, true, true, true, true, true, true, true, true, false] rfl rfl (one_of HT_.out (by kernel_rfl)) (by decide) (fun K hK => ?_)
    refine Kd.R_append_rows_step k45 (w0 := w) w.heap.size (by rfl) (.tmp 41) (.tmp 46) 65 45 (.agg #[(.int .u64 0), (.int .u64 0)]) 16 rfl Tryd.underlying65 info45 rfl (by decide) (by omega) v231 t230 y233 _ _ _ (fun k_ => some k_ ≠ (.slice Ao31 y233.length co31 : Value).ownBlock ∧ k_ ≠ gb219) (fun _ => False) rfl rfl ?aO ?aR (fun _ _ h => h) (fun _ h => h.elim) ?aF ?aB ?aS ?aL ?_
    (case aR => repeat (first | exact (Kd.R_reads' HO235.out).2.2 | (with_reducible refine Kd.C_alloc ?_ _) | (with_reducible refine Kd.C_drewN ?_ _) | (with_reducible refine Kd.C_drew ?_)))
    (case aB => exact bB)
    (case aF => exact (fun k_ hk => ⟨Kd.fresh' (Kd.R_lt (kR HO235.out)) k_ hk, Kd.freshB (g := gb219) (o := .cells #[.int .u64 a1_0, .int .u64 a1_1] 45 (0, 0)) (kB BK219.out) k_ hk⟩))
    (case aO => exact (kR HO232.out))
    (case aS => exact (below_size bB))
    (case aL => have := LMc21.out; omega)
    intro v237 w30 ho hb hg hat
    rw [← Ny236.out] at ho
    have n0_ := Aside0.mk (blk_grown (g := gb219) (o := .cells #[.int .u64 a1_0, .int .u64 a1_1] 45 (0, 0)) (kB BK219.out) hg (Kd.R_away HO232.out (fun _ hk => hk.2)))
    have n1_ := Aside0.mk (Kd.R_after (ok := (fun k_ => k_ ≠ gb219)) (by (with_reducible repeat (first | apply Kd.R_alloc | apply Kd.R_drewN | apply Kd.R_drew)); exact Kd.R_mono HO235.out (fun _ hk => ⟨hk.2, hk.1⟩)) hg hat)
    have n2_ := Aside0.mk (hb)
    have n3_ := Aside0.mk (ho)
    clear BK219
    clear HO235
    clear HB
    clear HO232
    have BK219 := n0_
    have HO235 := n1_
    have HB := n2_
    have HO238 := n3_
    clear n0_ n1_ n2_ n3_
    clear ho hb hg hat
    refine hK.out _ _ ⟨(blk_cell BK219.out 0).trans rfl, (blk_cell BK219.out 1).trans rfl⟩ (fun hHeld => ?_)
    clear hK K
    refine norm_ (a' := ?_) ?_ ?_
    rotate_left
    ·show Act.put _ (some 47) _ = _
     simp only [Act.put, List.setIfInBounds_toArray, List.set_cons_zero, List.set_cons_succ, i64_w, i32_w]
     rfl
    refine pure_ (i := 12) (N := some 4) (v := ?_) (a' := ?_) #[true, true, true, true, true, true, true, true, true, true, true, true, true] rfl rfl (any_of HT_.out (by kernel_rfl)) (fun _ _ _ h => h) (Or.inl ⟨by rfl, ?_⟩) ?_ ?_
    rotate_left
    ·intro w'
     go_simp
     with_reducible rfl
    rotate_left
    ·simp only [Act.put, List.setIfInBounds_toArray, List.set_cons_zero, List.set_cons_succ, i64_w, i32_w]
     rfl
    refine done_ (done_of HT_.out (by kernel_rfl)) ?_
    try go_wp2
    go_ret
    exact ⟨_, by first | rfl | (simp [errW_none, errW_some] <;> rfl) | (simp [*, errW_none, errW_some] <;> rfl), by (with_reducible repeat (first | apply Kd.R_alloc | apply Kd.R_drewN | apply Kd.R_drew)); exact Kd.R_mono HO238.out (fun _ hk => trivial), bB⟩
   ·rw [if_neg c21] at H
    exact absurd H (by simp)


/-! ### spec_PathParts: function 33 -/
def spec_PathParts.f (k : Nat) (a0 : Int) (a1 : Int) : Option ((List (S45))) := (spec_pathIn.f k a0 0 a1).bind fun t239 => (some t239)
theorem spec_PathParts.mono : ∀ a0 a1 k, LeO (spec_PathParts.f k a0 a1) (spec_PathParts.f (k + 1) a0 a1) := by
 intro a0 a1 k
 unfold spec_PathParts.f
 repeat' first
   | (with_reducible exact spec_pathIn.mono _ _ _ _)
   | (with_reducible exact LeO.refl _)
   | (with_reducible exact LeO.none _)
   | (with_reducible refine LeO.ite ?_ ?_)
   | (with_reducible refine LeO.bind ?_ (fun _ => ?_))
   | exact spec_pathIn.mono _ _ _ _
   | exact LeO.none _
   | refine LeO.ite ?_ ?_
   | refine LeO.bind ?_ (fun _ => ?_)
set_option maxHeartbeats 8000000 in
set_option maxRecDepth 100000 in
theorem spec_PathParts.calls (k : Nat) (a0 : Int) (a1 : Int) (r : List (S45)) (w : World) (h : spec_PathParts.f k a0 a1 = some r) :
  Calls Tryd.prog 33 #[.int .u64 a0, .int .u64 a1] w fun e w' => ∃ v0_ : Value, e = .returned (v0_) ∧ Kd.R k45 45 w' w.heap.size (fun _ => True) v0_ r ∧ Below w.heap.size w w' := by
 have hu45 := Tryd.underlying45
 have HB := Aside0.mk (Below.refl w.heap.size w)
 have H : ((spec_pathIn.f k a0 0 a1).bind fun t239 => (some t239)) = some r := h
 clear h
 replace H := Option.bind_eq_some_iff.mp H
 obtain ⟨t239, A30, H⟩ := H
 replace H : (some t239) = some r := H
 have A3 := Aside0.mk A30
 clear A30
 obtain rfl := Option.some.inj H
 go_enter Tryd.func33, Tryd.ntmps33
 go_wp2_with (first | ((with_reducible refine gate_callee (f := 43) rfl ?_); refine goesL_ (some 8) rfl rfl Tryd.func43 (by kernel_rfl) rfl #[.int .u64 a0, .agg #[.int .u64 0, .int .u64 a1]] rfl aV ?_; (with_reducible refine (spec_pathIn.calls k a0 0 a1 t239 _ A3.out).mono ?_); rintro e w4 ⟨v240, rfl, ho0, hb⟩; refine ⟨_, rfl, ?_⟩; have n0_ := Aside0.mk (Kd.R_lower ho0 (below_size bB)); have n1_ := Aside0.mk (below_step bB hb); clear HB; have HO241 := n0_; have HB := n1_; clear n0_ n1_; (try clear hb); (try clear hb2); (try clear hk); (try clear hi); (try clear ho0)))
 go_ret
 exact ⟨_, by first | rfl | (simp [errW_none, errW_some] <;> rfl) | (simp [*, errW_none, errW_some] <;> rfl), by (with_reducible repeat (first | apply Kd.R_alloc | apply Kd.R_drewN | apply Kd.R_drew)); exact HO241.out, bB⟩

end Go.Proofs.YtkkkaegocinkeaaDoor.M

