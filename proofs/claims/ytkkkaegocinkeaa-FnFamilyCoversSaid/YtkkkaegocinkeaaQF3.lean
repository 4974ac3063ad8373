-- Written by a program of ours (wip/xp) out of the translation; Lean checks it.
import Derived.Test.YtkkkaegocinkeaaQ0
import Derived.Test.YtkkkaegocinkeaaQE1
import Derived.Test.YtkkkaegocinkeaaQF4
import Derived.Test.YtkkkaegocinkeaaQF5
import Derived.Test.YtkkkaegocinkeaaQF6
namespace Go.Proofs.Ytkkkaegocinkeaa.Q
open Go.RowKit Go.Proofs.YtkkkaegocinkeaaW.PrintWords Go.Proofs.YtkkkaegocinkeaaW.PrintLast Go.Proofs.YtkkkaegocinkeaaW.PrintMore
attribute [local go_sem] max2_int min2_int max_two min_two max_three min_three max_four min_four   -- for this text's walks alone
set_option linter.unusedVariables false
set_option linter.unusedSimpArgs false

attribute [local go_sem high] eqA25
/-! ### lawFC: function 3 -/
def lawFC.f (a0_0 : Int) (a0_1 : Int) : Option (Bool) := if a0_0 ≥ 63 then (some true) else ((impl_Coverage.f a0_0 (Go.bits .andNot .u64 a0_1 1)).bind fun bt141 => ((impl_Coverage.f a0_0 (Go.bits .or .u64 a0_1 1)).bind fun bt143 => ((impl_Parent.f a0_0 a0_1).bind fun bt145 => ((impl_Coverage.f bt145.1 bt145.2).bind fun bt147 => (if bt141.2 = bt143.1 then (if bt141.1 = bt147.1 then (if bt143.2 = bt147.2 then (if 0 ≤ a0_0 then (if (IntKind.u64.wrap (bt141.2 - bt141.1)) = (shl .u64 1 a0_0) then ((impl_Sibling.f a0_0 (Go.bits .andNot .u64 a0_1 1)).bind fun bt149 => (some (bt149.1 == a0_0 && (bt149.2 == (Go.bits .or .u64 a0_1 1))))) else (some false)) else (none)) else (some false)) else (some false)) else (some false))))))
def lawFC.T3 : Bool × List (List Nat × List Nat) := (true, [([], []), ([0], [0]), ([], []), ([2], [2]), ([3], [3]), ([1, 4], [1, 4]), ([], []), ([6], [6]), ([], []), ([8], [8]), ([9], [9]), ([7, 10], [7, 10]), ([], []), ([], []), ([12, 5, 0, 1, 2, 3, 4, 5, 12, 13], [5, 12]), ([13, 11, 14, 0, 1, 2, 3, 4, 5, 6, 7, 8, 9, 10, 11, 12, 13, 14], [11, 13])])
def lawFC.B3 : List Nat := [0, 1, 0, 4, 12, 31, 0, 64, 0, 256, 768, 1984, 0, 0, 12351, 32767]
theorem lawFC.tab3 : rtab .any (opsOf Try.f3 3) = lawFC.T3 := by kernel_rfl
theorem lawFC.bits3 : waitsOk lawFC.T3.2 lawFC.B3 = true := by kernel_rfl
def lawFC.T7 : Bool × List (List Nat × List Nat) := (true, [([], []), ([], []), ([0, 1], [0, 1]), ([2], [2]), ([3], [3]), ([3], [3]), ([4, 5, 3], [3, 4, 5]), ([3, 6], [3, 6]), ([7, 3], [7]), ([8], [8]), ([8], [8]), ([9, 10, 8], [8, 9, 10]), ([8, 11], [8, 11]), ([12, 8], [12]), ([13], [13]), ([13], [13]), ([14, 15, 13], [13, 14, 15]), ([13], [13]), ([17, 13], [13, 17]), ([18, 13], [13, 18]), ([16, 19, 13], [13, 16, 19]), ([13, 20], [13, 20]), ([21, 13], [21]), ([22], [22]), ([23, 22, 22], [22, 23]), ([22], [22]), ([24, 25, 22], [22, 24, 25]), ([22, 26], [22, 26]), ([27, 24, 0, 1, 2, 3, 4, 5, 6, 7, 8, 9, 10, 11, 12, 13, 14, 15, 16, 17, 18, 19, 20, 21, 22, 23, 24, 25, 26, 27], [27])])
def lawFC.B7 : List Nat := [0, 0, 3, 7, 15, 15, 63, 127, 255, 511, 511, 2047, 4095, 8191, 16383, 16383, 65535, 16383, 147455, 409599, 1048575, 2097151, 4194303, 8388607, 16777215, 8388607, 67108863, 134217727, 268435455]
theorem lawFC.tab7 : rtab .any (opsOf Try.f3 7) = lawFC.T7 := by kernel_rfl
theorem lawFC.bits7 : waitsOk lawFC.T7.2 lawFC.B7 = true := by kernel_rfl
set_option maxHeartbeats 8000000 in
set_option maxRecDepth 100000 in
theorem lawFC.calls (a0_0 : Int) (a0_1 : Int) (r : Bool) (w : World) (h : lawFC.f a0_0 a0_1 = some r) :
    Calls Try.prog 3 #[.agg #[.int .u64 a0_0, .int .u64 a0_1]] w fun e w' => e = .returned (.bool r) ∧ Below w.heap.size w w' := by
  have hu25 := Try.underlying25
  have HB := Aside0.mk (Below.refl w.heap.size w)
  have H : (if a0_0 ≥ 63 then (some true) else ((impl_Coverage.f a0_0 (Go.bits .andNot .u64 a0_1 1)).bind fun bt141 => ((impl_Coverage.f a0_0 (Go.bits .or .u64 a0_1 1)).bind fun bt143 => ((impl_Parent.f a0_0 a0_1).bind fun bt145 => ((impl_Coverage.f bt145.1 bt145.2).bind fun bt147 => (if bt141.2 = bt143.1 then (if bt141.1 = bt147.1 then (if bt143.2 = bt147.2 then (if 0 ≤ a0_0 then (if (IntKind.u64.wrap (bt141.2 - bt141.1)) = (shl .u64 1 a0_0) then ((impl_Sibling.f a0_0 (Go.bits .andNot .u64 a0_1 1)).bind fun bt149 => (some (bt149.1 == a0_0 && (bt149.2 == (Go.bits .or .u64 a0_1 1))))) else (some false)) else (none)) else (some false)) else (some false)) else (some false))))))) = some r := h
  clear h
  by_cases c2 : a0_0 ≥ 63
  · rw [if_pos c2] at H
    have c2b0 : decide (63 ≤ a0_0) = true := decide_eq_true c2
    clear c2
    obtain rfl := Option.some.inj H
    go_enter Try.func3, Try.ntmps3
    go_wp2_with (first | ((with_reducible refine gate_dst (N := 1) rfl ?_); refine box_event ?hg (N := 1) ?hd (cs := #[.int .u64 a0_0, .int .u64 a0_1]) (t := 25) ?hr ?_; (case hd => rfl); (case hg => rfl); (case hr => first | (go_simp; done) | (go_simp; rfl)); intro gb138 hg w3 hbox hb; have n0_ := Aside0.mk (below_step (by repeat (first | (with_reducible first | exact HB.out | apply below_alloc | apply pw_below_drewN | apply below_drew1) | exact HB.out)) hb); have n1_ := Aside0.mk (hbox); have n2_ := Aside0.mk ((by rw [hg]; exact (below_size (by repeat (first | (with_reducible first | exact HB.out | apply below_alloc | apply pw_below_drewN | apply below_drew1) | exact HB.out))) : w.heap.size ≤ gb138)); have n3_ := Aside0.mk ((by rw [hg]; exact (below_size (by repeat (first | (with_reducible first | exact HB.out | apply below_alloc | apply pw_below_drewN | apply below_drew1) | exact HB.out))) : w.heap.size ≤ gb138)); clear HB; have HB := n0_; have BK138 := n1_; have GW138 := n2_; have GE138 := n3_; clear n0_ n1_ n2_ n3_; clear hb hbox hg; have hcz4_0 : w3.cell? ⟨gb138, 0, none⟩ = some (.int .u64 a0_0) := (blk_cell BK138.out 0).trans rfl; have hcz4_1 : w3.cell? ⟨gb138, 1, none⟩ = some (.int .u64 a0_1) := (blk_cell BK138.out 1).trans rfl; have hfz4_0 := blk_frozen BK138.out 0; have hfz4_1 := blk_frozen BK138.out 1))
    go_ret
    exact ⟨by first | rfl | (simp [errW_none, errW_some] <;> rfl) | (simp [*, errW_none, errW_some] <;> rfl), by repeat (first | (with_reducible first | exact HB.out | apply below_alloc | apply pw_below_drewN | apply below_drew1 | refine below_set ?_ GE138.out) | exact HB.out)⟩
  · rw [if_neg c2] at H
    have c2b0 : decide (63 ≤ a0_0) = false := decide_eq_false c2
    clear c2
    replace H := Option.bind_eq_some_iff.mp H
    obtain ⟨⟨t141, t142⟩, A50, H⟩ := H
    replace H : ((impl_Coverage.f a0_0 (Go.bits .or .u64 a0_1 1)).bind fun bt143 => ((impl_Parent.f a0_0 a0_1).bind fun bt145 => ((impl_Coverage.f bt145.1 bt145.2).bind fun bt147 => (if t142 = bt143.1 then (if t141 = bt147.1 then (if bt143.2 = bt147.2 then (if 0 ≤ a0_0 then (if (IntKind.u64.wrap (t142 - t141)) = (shl .u64 1 a0_0) then ((impl_Sibling.f a0_0 (Go.bits .andNot .u64 a0_1 1)).bind fun bt149 => (some (bt149.1 == a0_0 && (bt149.2 == (Go.bits .or .u64 a0_1 1))))) else (some false)) else (none)) else (some false)) else (some false)) else (some false))))) = some r := H
    have A5 := Aside0.mk A50
    clear A50
    replace H := Option.bind_eq_some_iff.mp H
    obtain ⟨⟨t143, t144⟩, A60, H⟩ := H
    replace H : ((impl_Parent.f a0_0 a0_1).bind fun bt145 => ((impl_Coverage.f bt145.1 bt145.2).bind fun bt147 => (if t142 = t143 then (if t141 = bt147.1 then (if t144 = bt147.2 then (if 0 ≤ a0_0 then (if (IntKind.u64.wrap (t142 - t141)) = (shl .u64 1 a0_0) then ((impl_Sibling.f a0_0 (Go.bits .andNot .u64 a0_1 1)).bind fun bt149 => (some (bt149.1 == a0_0 && (bt149.2 == (Go.bits .or .u64 a0_1 1))))) else (some false)) else (none)) else (some false)) else (some false)) else (some false)))) = some r := H
    have A6 := Aside0.mk A60
    clear A60
    replace H := Option.bind_eq_some_iff.mp H
    obtain ⟨⟨t145, t146⟩, A70, H⟩ := H
    replace H : ((impl_Coverage.f t145 t146).bind fun bt147 => (if t142 = t143 then (if t141 = bt147.1 then (if t144 = bt147.2 then (if 0 ≤ a0_0 then (if (IntKind.u64.wrap (t142 - t141)) = (shl .u64 1 a0_0) then ((impl_Sibling.f a0_0 (Go.bits .andNot .u64 a0_1 1)).bind fun bt149 => (some (bt149.1 == a0_0 && (bt149.2 == (Go.bits .or .u64 a0_1 1))))) else (some false)) else (none)) else (some false)) else (some false)) else (some false))) = some r := H
    have A7 := Aside0.mk A70
    clear A70
    replace H := Option.bind_eq_some_iff.mp H
    obtain ⟨⟨t147, t148⟩, A80, H⟩ := H
    replace H : (if t142 = t143 then (if t141 = t147 then (if t144 = t148 then (if 0 ≤ a0_0 then (if (IntKind.u64.wrap (t142 - t141)) = (shl .u64 1 a0_0) then ((impl_Sibling.f a0_0 (Go.bits .andNot .u64 a0_1 1)).bind fun bt149 => (some (bt149.1 == a0_0 && (bt149.2 == (Go.bits .or .u64 a0_1 1))))) else (some false)) else (none)) else (some false)) else (some false)) else (some false)) = some r := H
    have A8 := Aside0.mk A80
    clear A80
    by_cases c9 : t142 = t143
    · rw [if_pos c9] at H
      have c9b0 : (t142 == t143) = true := beq_iff_eq.mpr c9
      have c9b1 : (t142 != t143) = false := bne_eq_false_iff_eq.mpr c9
      clear c9
      by_cases c10 : t141 = t147
      · rw [if_pos c10] at H
        have c10b0 : (t141 == t147) = true := beq_iff_eq.mpr c10
        have c10b1 : (t141 != t147) = false := bne_eq_false_iff_eq.mpr c10
        clear c10
        by_cases c11 : t144 = t148
        · rw [if_pos c11] at H
          have c11b0 : (t144 == t148) = true := beq_iff_eq.mpr c11
          have c11b1 : (t144 != t148) = false := bne_eq_false_iff_eq.mpr c11
          clear c11
          by_cases c12 : 0 ≤ a0_0
          · rw [if_pos c12] at H
            have c12b0 := eq_true c12
            have c12b1 : decide (0 ≤ a0_0) = true := decide_eq_true c12
            clear c12
            obtain ⟨ji13, hji13⟩ : ∃ j_ : Int, (shl .u64 1 a0_0) = j_ := ⟨_, rfl⟩
            replace H : (if (IntKind.u64.wrap (t142 - t141)) = (ji13) then ((impl_Sibling.f a0_0 (Go.bits .andNot .u64 a0_1 1)).bind fun bt149 => (some (bt149.1 == a0_0 && (bt149.2 == (Go.bits .or .u64 a0_1 1))))) else (some false)) = some r := by first | (rw [hji13] at H; exact H) | (simp only [hji13] at H ⊢; exact H)
            (try rw [hji13] at A5)
            (try rw [hji13] at A6)
            (try rw [hji13] at A7)
            (try rw [hji13] at A8)
            have hji13_ : (IntKind.u64.wrap (1 * 2 ^ min a0_0.toNat 64)) = ji13 := hji13
            have hji13z : a0_0 ≤ 64 → (IntKind.u64.wrap (1 * 2 ^ a0_0.toNat)) = ji13 := shl_small hji13
            have hji13u : (IntKind.u64.wrap (2 ^ min a0_0.toNat 64)) = ji13 := by have h_ := hji13_; rw [Int.one_mul] at h_; exact h_
            have hji13v : a0_0 ≤ 64 → (IntKind.u64.wrap (2 ^ a0_0.toNat)) = ji13 := fun hle_ => by have h_ := hji13z hle_; rw [Int.one_mul] at h_; exact h_
            by_cases c14 : (IntKind.u64.wrap (t142 - t141)) = (ji13)
            · rw [if_pos c14] at H
              have c14b0 : ((IntKind.u64.wrap (t142 - t141)) == (ji13)) = true := beq_iff_eq.mpr c14
              have c14b1 : ((IntKind.u64.wrap (t142 - t141)) != (ji13)) = false := bne_eq_false_iff_eq.mpr c14
              clear c14
              replace H := Option.bind_eq_some_iff.mp H
              obtain ⟨⟨t149, t150⟩, A150, H⟩ := H
              replace H : (some (t149 == a0_0 && (t150 == (Go.bits .or .u64 a0_1 1)))) = some r := H
              have A15 := Aside0.mk A150
              clear A150
              obtain rfl := Option.some.inj H
              go_enter Try.func3, Try.ntmps3
              try go_wp2_with (first | ((with_reducible refine gate_dst (N := 1) rfl ?_); refine box_event ?hg (N := 1) ?hd (cs := #[.int .u64 a0_0, .int .u64 a0_1]) (t := 25) ?hr ?_; (case hd => rfl); (case hg => rfl); (case hr => first | (go_simp; done) | (go_simp; rfl)); intro gb138 hg w16 hbox hb; have n0_ := Aside0.mk (below_step (by repeat (first | (with_reducible first | exact HB.out | apply below_alloc | apply pw_below_drewN | apply below_drew1) | exact HB.out)) hb); have n1_ := Aside0.mk (hbox); have n2_ := Aside0.mk ((by rw [hg]; exact (below_size (by repeat (first | (with_reducible first | exact HB.out | apply below_alloc | apply pw_below_drewN | apply below_drew1) | exact HB.out))) : w.heap.size ≤ gb138)); have n3_ := Aside0.mk ((by rw [hg]; exact (below_size (by repeat (first | (with_reducible first | exact HB.out | apply below_alloc | apply pw_below_drewN | apply below_drew1) | exact HB.out))) : w.heap.size ≤ gb138)); clear HB; have HB := n0_; have BK138 := n1_; have GW138 := n2_; have GE138 := n3_; clear n0_ n1_ n2_ n3_; clear hb hbox hg; have hcz17_0 : w16.cell? ⟨gb138, 0, none⟩ = some (.int .u64 a0_0) := (blk_cell BK138.out 0).trans rfl; have hcz17_1 : w16.cell? ⟨gb138, 1, none⟩ = some (.int .u64 a0_1) := (blk_cell BK138.out 1).trans rfl; have hfz17_0 := blk_frozen BK138.out 0; have hfz17_1 := blk_frozen BK138.out 1))
              have n0_ := Aside0.mk (blk_drew BK138.out)
              have n1_ := Aside0.mk (below_drew1 HB.out)
              clear BK138
              clear HB
              have BK138 := n0_
              have HB := n1_
              clear n0_ n1_
              refine start_ (n := 16) (S := fun w' => w'.cell? ⟨gb138, 0, none⟩ = some (.int .u64 a0_0) ∧ w'.cell? ⟨gb138, 1, none⟩ = some (.int .u64 a0_1)) (ds := []) #[false, false, false, false, false, false, false, false, false, false, false, false, false, false, false, false] (by kernel_rfl) rfl rfl ⟨(blk_cell BK138.out 0).trans rfl, (blk_cell BK138.out 1).trans rfl⟩ (fun hHeld => ?_); refine with_tabW lawFC.tab3 lawFC.bits3 (fun HT_ HW_ => ?_)
              generalize w16.drew = w18 at BK138 HB hHeld ⊢
              refine pure_ (i := 0) (N := some 14) (v := ?_) (a' := ?_) #[true, false, false, false, false, false, false, false, false, false, false, false, false, false, false, false] rfl rfl (any_of HT_.out (by kernel_rfl)) (fun _ _ _ h => h) (Or.inl ⟨by rfl, ?_⟩) ?_ ?_
              rotate_left
              · intro w'
                go_simp
                with_reducible rfl
              rotate_left
              · simp only [Act.put, List.setIfInBounds_toArray, List.set_cons_zero, List.set_cons_succ]
                rfl
              refine pure_ (i := 2) (N := some 16) (v := ?_) (a' := ?_) #[true, false, true, false, false, false, false, false, false, false, false, false, false, false, false, false] rfl rfl (any_of HT_.out (by kernel_rfl)) (fun _ _ _ h => h) (Or.inl ⟨by rfl, ?_⟩) ?_ ?_
              rotate_left
              · intro w'
                go_simp
                with_reducible rfl
              rotate_left
              · simp only [Act.put, List.setIfInBounds_toArray, List.set_cons_zero, List.set_cons_succ]
                rfl
              refine pure_ (i := 6) (N := some 20) (v := ?_) (a' := ?_) #[true, false, true, false, false, false, true, false, false, false, false, false, false, false, false, false] rfl rfl (any_of HT_.out (by kernel_rfl)) (fun _ _ _ h => h) (Or.inl ⟨by rfl, ?_⟩) ?_ ?_
              rotate_left
              · intro w'
                go_simp
                with_reducible rfl
              rotate_left
              · simp only [Act.put, List.setIfInBounds_toArray, List.set_cons_zero, List.set_cons_succ]
                rfl
              refine pure_ (i := 8) (N := some 22) (v := ?_) (a' := ?_) #[true, false, true, false, false, false, true, false, true, false, false, false, false, false, false, false] rfl rfl (any_of HT_.out (by kernel_rfl)) (fun _ _ _ h => h) (Or.inl ⟨by rfl, ?_⟩) ?_ ?_
              rotate_left
              · intro w'
                go_simp
                with_reducible rfl
              rotate_left
              · simp only [Act.put, List.setIfInBounds_toArray, List.set_cons_zero, List.set_cons_succ]
                rfl
              refine take_ (i := 1) (N := some 15) (v := ?_) (a' := ?_) #[true, true, true, false, false, false, true, false, true, false, false, false, false, false, false, false] rfl rfl (take_ofW HT_.out HW_.out (by kernel_rfl)) (fun _ _ _ h => h) (Or.inl ⟨by rfl, ?_⟩) hHeld ?_ ?_
              rotate_left
              · rintro w' ⟨s0, s1⟩
                go_simp
                with_reducible rfl
              rotate_left
              · simp only [Act.put, List.setIfInBounds_toArray, List.set_cons_zero, List.set_cons_succ]
                rfl
              refine take_ (i := 3) (N := some 17) (v := ?_) (a' := ?_) #[true, true, true, true, false, false, true, false, true, false, false, false, false, false, false, false] rfl rfl (take_ofW HT_.out HW_.out (by kernel_rfl)) (fun _ _ _ h => h) (Or.inl ⟨by rfl, ?_⟩) hHeld ?_ ?_
              rotate_left
              · rintro w' ⟨s0, s1⟩
                go_simp
                with_reducible rfl
              rotate_left
              · simp only [Act.put, List.setIfInBounds_toArray, List.set_cons_zero, List.set_cons_succ]
                rfl
              refine pure_ (i := 4) (N := some 18) (v := ?_) (a' := ?_) #[true, true, true, true, true, false, true, false, true, false, false, false, false, false, false, false] rfl rfl (any_of HT_.out (by kernel_rfl)) (fun _ _ _ h => h) (Or.inl ⟨by rfl, ?_⟩) ?_ ?_
              rotate_left
              · intro w'
                go_simp
                with_reducible rfl
              rotate_left
              · simp only [Act.put, List.setIfInBounds_toArray, List.set_cons_zero, List.set_cons_succ]
                rfl
              refine pure_ (i := 5) (N := some 19) (v := ?_) (a' := ?_) #[true, true, true, true, true, true, true, false, true, false, false, false, false, false, false, false] rfl rfl (any_of HT_.out (by kernel_rfl)) (fun _ _ _ h => h) (Or.inl ⟨by rfl, ?_⟩) ?_ ?_
              rotate_left
              · intro w'
                go_simp
                with_reducible rfl
              rotate_left
              · simp only [Act.put, List.setIfInBounds_toArray, List.set_cons_zero, List.set_cons_succ]
                rfl
              refine take_ (i := 7) (N := some 21) (v := ?_) (a' := ?_) #[true, true, true, true, true, true, true, true, true, false, false, false, false, false, false, false] rfl rfl (take_ofW HT_.out HW_.out (by kernel_rfl)) (fun _ _ _ h => h) (Or.inl ⟨by rfl, ?_⟩) hHeld ?_ ?_
              rotate_left
              · rintro w' ⟨s0, s1⟩
                go_simp
                with_reducible rfl
              rotate_left
              · simp only [Act.put, List.setIfInBounds_toArray, List.set_cons_zero, List.set_cons_succ]
                rfl
              refine take_ (i := 9) (N := some 23) (v := ?_) (a' := ?_) #[true, true, true, true, true, true, true, true, true, true, false, false, false, false, false, false] rfl rfl (take_ofW HT_.out HW_.out (by kernel_rfl)) (fun _ _ _ h => h) (Or.inl ⟨by rfl, ?_⟩) hHeld ?_ ?_
              rotate_left
              · rintro w' ⟨s0, s1⟩
                go_simp
                with_reducible rfl
              rotate_left
              · simp only [Act.put, List.setIfInBounds_toArray, List.set_cons_zero, List.set_cons_succ]
                rfl
              refine pure_ (i := 10) (N := some 24) (v := ?_) (a' := ?_) #[true, true, true, true, true, true, true, true, true, true, true, false, false, false, false, false] rfl rfl (any_of HT_.out (by kernel_rfl)) (fun _ _ _ h => h) (Or.inl ⟨by rfl, ?_⟩) ?_ ?_
              rotate_left
              · intro w'
                go_simp
                with_reducible rfl
              rotate_left
              · simp only [Act.put, List.setIfInBounds_toArray, List.set_cons_zero, List.set_cons_succ]
                rfl
              refine pure_ (i := 11) (N := some 25) (v := ?_) (a' := ?_) #[true, true, true, true, true, true, true, true, true, true, true, true, false, false, false, false] rfl rfl (any_of HT_.out (by kernel_rfl)) (fun _ _ _ h => h) (Or.inl ⟨by rfl, ?_⟩) ?_ ?_
              rotate_left
              · intro w'
                go_simp
                with_reducible rfl
              rotate_left
              · simp only [Act.put, List.setIfInBounds_toArray, List.set_cons_zero, List.set_cons_succ]
                rfl
              refine join_ (σ := Nat × Nat) 2 #[true, true, true, true, true, true, true, true, true, true, true, true, true, true, false, false] (fun s_ => [(3, .pointer (some ⟨s_.1, 0, none⟩)), (4, .pointer (some ⟨s_.2, 0, none⟩))]) (fun s_ w' => (w'.cell? ⟨gb138, 0, none⟩ = some (.int .u64 a0_0) ∧ w'.cell? ⟨gb138, 1, none⟩ = some (.int .u64 a0_1)) ∧ (w'.heap[gb138]? = some (.cells #[.int .u64 a0_0, .int .u64 a0_1] 25 (0, 0))) ∧ (w'.heap[s_.1]? = some (.cells #[.int .u64 0, .int .u64 0] 25 (0, 0))) ∧ (w'.heap[s_.2]? = some (.cells #[.int .u64 0, .int .u64 0] 25 (0, 0))) ∧ (w.heap.size ≤ s_.1) ∧ (w.heap.size ≤ s_.1) ∧ (gb138 ≠ s_.1) ∧ (s_.1 ≠ gb138) ∧ (s_.2 ≠ s_.1) ∧ (s_.1 ≠ s_.2) ∧ (w.heap.size ≤ s_.2) ∧ (w.heap.size ≤ s_.2) ∧ (gb138 ≠ s_.2) ∧ (s_.2 ≠ gb138) ∧ (Below w.heap.size w w')) ?_ ?_
              rotate_left
              · intro hCont
                refine two_ (i := 12) (j := 13) (Ni := some 3) (Nj := some 4) #[true, true, true, true, true, true, true, true, true, true, true, true, true, false, false, false] #[true, true, true, true, true, true, true, true, true, true, true, true, false, true, false, false] rfl rfl rfl rfl (two_of HT_.out (by kernel_rfl)) (by decide) (by decide) (fun K hK => ?_) (fun K hK => ?_)
                · skip
                  refine box_step ?hg (N := 3) ?hd (cs := #[.int .u64 0, .int .u64 0]) (t := 25) ?hr ?_; (case hd => rfl); (case hg => rfl); (case hr => first | (go_simp; done) | (go_simp; rfl))
                  intro gb139 hg w19 hbox hb
                  have n0_ := Aside0.mk (blk_below (g := gb138) (o := .cells #[.int .u64 a0_0, .int .u64 a0_1] 25 (0, 0)) (by (with_reducible repeat (first | refine blk_drewN ?_ _ | refine blk_drew ?_ | refine blk_alloc ?_ _)); exact BK138.out) hb)
                  have n1_ := Aside0.mk (below_step (by repeat (first | (with_reducible first | exact HB.out | apply below_alloc | apply pw_below_drewN | apply below_drew1 | refine below_set ?_ GE138.out) | exact HB.out)) hb)
                  have n2_ := Aside0.mk (hbox)
                  have n3_ := Aside0.mk ((by rw [hg]; exact (below_size (by repeat (first | (with_reducible first | exact HB.out | apply below_alloc | apply pw_below_drewN | apply below_drew1 | refine below_set ?_ GE138.out) | exact HB.out))) : w.heap.size ≤ gb139))
                  have n4_ := Aside0.mk ((by rw [hg]; exact (below_size (by repeat (first | (with_reducible first | exact HB.out | apply below_alloc | apply pw_below_drewN | apply below_drew1 | refine below_set ?_ GE138.out) | exact HB.out))) : w.heap.size ≤ gb139))
                  have n5_ := Aside0.mk ((by rw [hg]; exact Nat.ne_of_lt (blk_lt (g := gb138) (o := .cells #[.int .u64 a0_0, .int .u64 a0_1] 25 (0, 0)) (by (with_reducible repeat (first | refine blk_drewN ?_ _ | refine blk_drew ?_ | refine blk_alloc ?_ _)); exact BK138.out)) : gb138 ≠ gb139))
                  have n6_ := Aside0.mk ((by rw [hg]; exact Nat.ne_of_gt (blk_lt (g := gb138) (o := .cells #[.int .u64 a0_0, .int .u64 a0_1] 25 (0, 0)) (by (with_reducible repeat (first | refine blk_drewN ?_ _ | refine blk_drew ?_ | refine blk_alloc ?_ _)); exact BK138.out)) : gb139 ≠ gb138))
                  clear BK138
                  clear HB
                  have BK138 := n0_
                  have HB := n1_
                  have BK139 := n2_
                  have GW139 := n3_
                  have GE139 := n4_
                  have NB138_139 := n5_
                  have NB139_138 := n6_
                  clear n0_ n1_ n2_ n3_ n4_ n5_ n6_
                  clear hb hbox hg
                  refine hK.out _ _ ⟨(blk_cell BK138.out 0).trans rfl, (blk_cell BK138.out 1).trans rfl⟩ (fun hHeld => ?_)
                  clear hK K
                  refine norm_ (a' := ?_) ?_ ?_
                  rotate_left
                  · show Act.put _ (some 3) _ = _
                    simp only [Act.put, List.setIfInBounds_toArray, List.set_cons_zero, List.set_cons_succ]
                    rfl
                  refine one_ (i := 13) (N := some 4) #[true, true, true, true, true, true, true, true, true, true, true, true, true, true, false, false] rfl rfl (one_of HT_.out (by kernel_rfl)) (by decide) (fun K hK => ?_)
                  refine box_step ?hg (N := 4) ?hd (cs := #[.int .u64 0, .int .u64 0]) (t := 25) ?hr ?_; (case hd => rfl); (case hg => rfl); (case hr => first | (go_simp; done) | (go_simp; rfl))
                  intro gb140 hg w20 hbox hb
                  have n0_ := Aside0.mk (blk_below (g := gb138) (o := .cells #[.int .u64 a0_0, .int .u64 a0_1] 25 (0, 0)) (by (with_reducible repeat (first | refine blk_drewN ?_ _ | refine blk_drew ?_ | refine blk_alloc ?_ _)); exact BK138.out) hb)
                  have n1_ := Aside0.mk (blk_below (g := gb139) (o := .cells #[.int .u64 0, .int .u64 0] 25 (0, 0)) (by (with_reducible repeat (first | refine blk_drewN ?_ _ | refine blk_drew ?_ | refine blk_alloc ?_ _)); exact BK139.out) hb)
                  have n2_ := Aside0.mk (below_step (by repeat (first | (with_reducible first | exact HB.out | apply below_alloc | apply pw_below_drewN | apply below_drew1 | refine below_set ?_ GE138.out | refine below_set ?_ GE139.out) | exact HB.out)) hb)
                  have n3_ := Aside0.mk (hbox)
                  have n4_ := Aside0.mk ((by rw [hg]; exact (below_size (by repeat (first | (with_reducible first | exact HB.out | apply below_alloc | apply pw_below_drewN | apply below_drew1 | refine below_set ?_ GE138.out | refine below_set ?_ GE139.out) | exact HB.out))) : w.heap.size ≤ gb140))
                  have n5_ := Aside0.mk ((by rw [hg]; exact (below_size (by repeat (first | (with_reducible first | exact HB.out | apply below_alloc | apply pw_below_drewN | apply below_drew1 | refine below_set ?_ GE138.out | refine below_set ?_ GE139.out) | exact HB.out))) : w.heap.size ≤ gb140))
                  have n6_ := Aside0.mk ((by rw [hg]; exact Nat.ne_of_lt (blk_lt (g := gb138) (o := .cells #[.int .u64 a0_0, .int .u64 a0_1] 25 (0, 0)) (by (with_reducible repeat (first | refine blk_drewN ?_ _ | refine blk_drew ?_ | refine blk_alloc ?_ _)); exact BK138.out)) : gb138 ≠ gb140))
                  have n7_ := Aside0.mk ((by rw [hg]; exact Nat.ne_of_gt (blk_lt (g := gb138) (o := .cells #[.int .u64 a0_0, .int .u64 a0_1] 25 (0, 0)) (by (with_reducible repeat (first | refine blk_drewN ?_ _ | refine blk_drew ?_ | refine blk_alloc ?_ _)); exact BK138.out)) : gb140 ≠ gb138))
                  have n8_ := Aside0.mk ((by rw [hg]; exact Nat.ne_of_lt (blk_lt (g := gb139) (o := .cells #[.int .u64 0, .int .u64 0] 25 (0, 0)) (by (with_reducible repeat (first | refine blk_drewN ?_ _ | refine blk_drew ?_ | refine blk_alloc ?_ _)); exact BK139.out)) : gb139 ≠ gb140))
                  have n9_ := Aside0.mk ((by rw [hg]; exact Nat.ne_of_gt (blk_lt (g := gb139) (o := .cells #[.int .u64 0, .int .u64 0] 25 (0, 0)) (by (with_reducible repeat (first | refine blk_drewN ?_ _ | refine blk_drew ?_ | refine blk_alloc ?_ _)); exact BK139.out)) : gb140 ≠ gb139))
                  clear BK138
                  clear BK139
                  clear HB
                  have BK138 := n0_
                  have BK139 := n1_
                  have HB := n2_
                  have BK140 := n3_
                  have GW140 := n4_
                  have GE140 := n5_
                  have NB138_140 := n6_
                  have NB140_138 := n7_
                  have NB139_140 := n8_
                  have NB140_139 := n9_
                  clear n0_ n1_ n2_ n3_ n4_ n5_ n6_ n7_ n8_ n9_
                  clear hb hbox hg
                  refine hK.out _ _ ⟨(blk_cell BK138.out 0).trans rfl, (blk_cell BK138.out 1).trans rfl⟩ (fun hHeld => ?_)
                  clear hK K
                  refine norm_ (a' := ?_) ?_ ?_
                  rotate_left
                  · show Act.put _ (some 4) _ = _
                    simp only [Act.put, List.setIfInBounds_toArray, List.set_cons_zero, List.set_cons_succ]
                    rfl
                  exact norm_ (by simp only [putAll, Act.put, List.setIfInBounds_toArray, List.set_cons_zero, List.set_cons_succ]) (hCont (gb139, gb140) _ ⟨hHeld, (by (with_reducible repeat (first | refine blk_drewN ?_ _ | refine blk_drew ?_ | refine blk_alloc ?_ _)); exact BK138.out), (by (with_reducible repeat (first | refine blk_drewN ?_ _ | refine blk_drew ?_ | refine blk_alloc ?_ _)); exact BK139.out), (by (with_reducible repeat (first | refine blk_drewN ?_ _ | refine blk_drew ?_ | refine blk_alloc ?_ _)); exact BK140.out), GW139.out, GE139.out, NB138_139.out, NB139_138.out, NB140_139.out, NB139_140.out, GW140.out, GE140.out, NB138_140.out, NB140_138.out, (by repeat (first | (with_reducible first | exact HB.out | apply below_alloc | apply pw_below_drewN | apply below_drew1 | refine below_set ?_ GE138.out | refine below_set ?_ GE139.out | refine below_set ?_ GE140.out) | exact HB.out))⟩)
                · skip
                  refine box_step ?hg (N := 4) ?hd (cs := #[.int .u64 0, .int .u64 0]) (t := 25) ?hr ?_; (case hd => rfl); (case hg => rfl); (case hr => first | (go_simp; done) | (go_simp; rfl))
                  intro gb140 hg w19 hbox hb
                  have n0_ := Aside0.mk (blk_below (g := gb138) (o := .cells #[.int .u64 a0_0, .int .u64 a0_1] 25 (0, 0)) (by (with_reducible repeat (first | refine blk_drewN ?_ _ | refine blk_drew ?_ | refine blk_alloc ?_ _)); exact BK138.out) hb)
                  have n1_ := Aside0.mk (below_step (by repeat (first | (with_reducible first | exact HB.out | apply below_alloc | apply pw_below_drewN | apply below_drew1 | refine below_set ?_ GE138.out) | exact HB.out)) hb)
                  have n2_ := Aside0.mk (hbox)
                  have n3_ := Aside0.mk ((by rw [hg]; exact (below_size (by repeat (first | (with_reducible first | exact HB.out | apply below_alloc | apply pw_below_drewN | apply below_drew1 | refine below_set ?_ GE138.out) | exact HB.out))) : w.heap.size ≤ gb140))
                  have n4_ := Aside0.mk ((by rw [hg]; exact (below_size (by repeat (first | (with_reducible first | exact HB.out | apply below_alloc | apply pw_below_drewN | apply below_drew1 | refine below_set ?_ GE138.out) | exact HB.out))) : w.heap.size ≤ gb140))
                  have n5_ := Aside0.mk ((by rw [hg]; exact Nat.ne_of_lt (blk_lt (g := gb138) (o := .cells #[.int .u64 a0_0, .int .u64 a0_1] 25 (0, 0)) (by (with_reducible repeat (first | refine blk_drewN ?_ _ | refine blk_drew ?_ | refine blk_alloc ?_ _)); exact BK138.out)) : gb138 ≠ gb140))
                  have n6_ := Aside0.mk ((by rw [hg]; exact Nat.ne_of_gt (blk_lt (g := gb138) (o := .cells #[.int .u64 a0_0, .int .u64 a0_1] 25 (0, 0)) (by (with_reducible repeat (first | refine blk_drewN ?_ _ | refine blk_drew ?_ | refine blk_alloc ?_ _)); exact BK138.out)) : gb140 ≠ gb138))
                  clear BK138
                  clear HB
                  have BK138 := n0_
                  have HB := n1_
                  have BK140 := n2_
                  have GW140 := n3_
                  have GE140 := n4_
                  have NB138_140 := n5_
                  have NB140_138 := n6_
                  clear n0_ n1_ n2_ n3_ n4_ n5_ n6_
                  clear hb hbox hg
                  refine hK.out _ _ ⟨(blk_cell BK138.out 0).trans rfl, (blk_cell BK138.out 1).trans rfl⟩ (fun hHeld => ?_)
                  clear hK K
                  refine norm_ (a' := ?_) ?_ ?_
                  rotate_left
                  · show Act.put _ (some 4) _ = _
                    simp only [Act.put, List.setIfInBounds_toArray, List.set_cons_zero, List.set_cons_succ]
                    rfl
                  refine one_ (i := 12) (N := some 3) #[true, true, true, true, true, true, true, true, true, true, true, true, true, true, false, false] rfl rfl (one_of HT_.out (by kernel_rfl)) (by decide) (fun K hK => ?_)
                  refine box_step ?hg (N := 3) ?hd (cs := #[.int .u64 0, .int .u64 0]) (t := 25) ?hr ?_; (case hd => rfl); (case hg => rfl); (case hr => first | (go_simp; done) | (go_simp; rfl))
                  intro gb139 hg w20 hbox hb
                  have n0_ := Aside0.mk (blk_below (g := gb138) (o := .cells #[.int .u64 a0_0, .int .u64 a0_1] 25 (0, 0)) (by (with_reducible repeat (first | refine blk_drewN ?_ _ | refine blk_drew ?_ | refine blk_alloc ?_ _)); exact BK138.out) hb)
                  have n1_ := Aside0.mk (blk_below (g := gb140) (o := .cells #[.int .u64 0, .int .u64 0] 25 (0, 0)) (by (with_reducible repeat (first | refine blk_drewN ?_ _ | refine blk_drew ?_ | refine blk_alloc ?_ _)); exact BK140.out) hb)
                  have n2_ := Aside0.mk (below_step (by repeat (first | (with_reducible first | exact HB.out | apply below_alloc | apply pw_below_drewN | apply below_drew1 | refine below_set ?_ GE138.out | refine below_set ?_ GE140.out) | exact HB.out)) hb)
                  have n3_ := Aside0.mk (hbox)
                  have n4_ := Aside0.mk ((by rw [hg]; exact (below_size (by repeat (first | (with_reducible first | exact HB.out | apply below_alloc | apply pw_below_drewN | apply below_drew1 | refine below_set ?_ GE138.out | refine below_set ?_ GE140.out) | exact HB.out))) : w.heap.size ≤ gb139))
                  have n5_ := Aside0.mk ((by rw [hg]; exact (below_size (by repeat (first | (with_reducible first | exact HB.out | apply below_alloc | apply pw_below_drewN | apply below_drew1 | refine below_set ?_ GE138.out | refine below_set ?_ GE140.out) | exact HB.out))) : w.heap.size ≤ gb139))
                  have n6_ := Aside0.mk ((by rw [hg]; exact Nat.ne_of_lt (blk_lt (g := gb138) (o := .cells #[.int .u64 a0_0, .int .u64 a0_1] 25 (0, 0)) (by (with_reducible repeat (first | refine blk_drewN ?_ _ | refine blk_drew ?_ | refine blk_alloc ?_ _)); exact BK138.out)) : gb138 ≠ gb139))
                  have n7_ := Aside0.mk ((by rw [hg]; exact Nat.ne_of_gt (blk_lt (g := gb138) (o := .cells #[.int .u64 a0_0, .int .u64 a0_1] 25 (0, 0)) (by (with_reducible repeat (first | refine blk_drewN ?_ _ | refine blk_drew ?_ | refine blk_alloc ?_ _)); exact BK138.out)) : gb139 ≠ gb138))
                  have n8_ := Aside0.mk ((by rw [hg]; exact Nat.ne_of_lt (blk_lt (g := gb140) (o := .cells #[.int .u64 0, .int .u64 0] 25 (0, 0)) (by (with_reducible repeat (first | refine blk_drewN ?_ _ | refine blk_drew ?_ | refine blk_alloc ?_ _)); exact BK140.out)) : gb140 ≠ gb139))
                  have n9_ := Aside0.mk ((by rw [hg]; exact Nat.ne_of_gt (blk_lt (g := gb140) (o := .cells #[.int .u64 0, .int .u64 0] 25 (0, 0)) (by (with_reducible repeat (first | refine blk_drewN ?_ _ | refine blk_drew ?_ | refine blk_alloc ?_ _)); exact BK140.out)) : gb139 ≠ gb140))
                  clear BK138
                  clear BK140
                  clear HB
                  have BK138 := n0_
                  have BK140 := n1_
                  have HB := n2_
                  have BK139 := n3_
                  have GW139 := n4_
                  have GE139 := n5_
                  have NB138_139 := n6_
                  have NB139_138 := n7_
                  have NB140_139 := n8_
                  have NB139_140 := n9_
                  clear n0_ n1_ n2_ n3_ n4_ n5_ n6_ n7_ n8_ n9_
                  clear hb hbox hg
                  refine hK.out _ _ ⟨(blk_cell BK138.out 0).trans rfl, (blk_cell BK138.out 1).trans rfl⟩ (fun hHeld => ?_)
                  clear hK K
                  refine norm_ (a' := ?_) ?_ ?_
                  rotate_left
                  · show Act.put _ (some 3) _ = _
                    simp only [Act.put, List.setIfInBounds_toArray, List.set_cons_zero, List.set_cons_succ]
                    rfl
                  exact norm_ (by simp only [putAll, Act.put, List.setIfInBounds_toArray, List.set_cons_zero, List.set_cons_succ]) (hCont (gb139, gb140) _ ⟨hHeld, (by (with_reducible repeat (first | refine blk_drewN ?_ _ | refine blk_drew ?_ | refine blk_alloc ?_ _)); exact BK138.out), (by (with_reducible repeat (first | refine blk_drewN ?_ _ | refine blk_drew ?_ | refine blk_alloc ?_ _)); exact BK139.out), (by (with_reducible repeat (first | refine blk_drewN ?_ _ | refine blk_drew ?_ | refine blk_alloc ?_ _)); exact BK140.out), GW139.out, GE139.out, NB138_139.out, NB139_138.out, NB140_139.out, NB139_140.out, GW140.out, GE140.out, NB138_140.out, NB140_138.out, (by repeat (first | (with_reducible first | exact HB.out | apply below_alloc | apply pw_below_drewN | apply below_drew1 | refine below_set ?_ GE138.out | refine below_set ?_ GE140.out | refine below_set ?_ GE139.out) | exact HB.out))⟩)
              rintro ⟨gb139, gb140⟩ w21 ⟨hS_, h0_, h1_, h2_, h3_, h4_, h5_, h6_, h7_, h8_, h9_, h10_, h11_, h12_, h13_⟩
              have n0_ : Aside0 (w21.heap[gb138]? = some (.cells #[.int .u64 a0_0, .int .u64 a0_1] 25 (0, 0))) := ⟨h0_⟩
              have n1_ : Aside0 (w21.heap[gb139]? = some (.cells #[.int .u64 0, .int .u64 0] 25 (0, 0))) := ⟨h1_⟩
              have n2_ : Aside0 (w21.heap[gb140]? = some (.cells #[.int .u64 0, .int .u64 0] 25 (0, 0))) := ⟨h2_⟩
              have n3_ : Aside0 (w.heap.size ≤ gb139) := ⟨h3_⟩
              have n4_ : Aside0 (w.heap.size ≤ gb139) := ⟨h4_⟩
              have n5_ : Aside0 (gb138 ≠ gb139) := ⟨h5_⟩
              have n6_ : Aside0 (gb139 ≠ gb138) := ⟨h6_⟩
              have n7_ : Aside0 (gb140 ≠ gb139) := ⟨h7_⟩
              have n8_ : Aside0 (gb139 ≠ gb140) := ⟨h8_⟩
              have n9_ : Aside0 (w.heap.size ≤ gb140) := ⟨h9_⟩
              have n10_ : Aside0 (w.heap.size ≤ gb140) := ⟨h10_⟩
              have n11_ : Aside0 (gb138 ≠ gb140) := ⟨h11_⟩
              have n12_ : Aside0 (gb140 ≠ gb138) := ⟨h12_⟩
              have n13_ : Aside0 (Below w.heap.size w w21) := ⟨h13_⟩
              clear BK138
              clear HB
              clear h0_ h1_ h2_ h3_ h4_ h5_ h6_ h7_ h8_ h9_ h10_ h11_ h12_ h13_
              have BK138 := n0_
              have BK139 := n1_
              have BK140 := n2_
              have GW139 := n3_
              have GE139 := n4_
              have NB138_139 := n5_
              have NB139_138 := n6_
              have NB140_139 := n7_
              have NB139_140 := n8_
              have GW140 := n9_
              have GE140 := n10_
              have NB138_140 := n11_
              have NB140_138 := n12_
              have HB := n13_
              clear n0_ n1_ n2_ n3_ n4_ n5_ n6_ n7_ n8_ n9_ n10_ n11_ n12_ n13_
              have hHeld : w21.cell? ⟨gb138, 0, none⟩ = some (.int .u64 a0_0) ∧ w21.cell? ⟨gb138, 1, none⟩ = some (.int .u64 a0_1) := hS_
              refine norm_ (a' := ?_) ?_ ?_
              rotate_left
              · simp only [putAll, Act.put, List.setIfInBounds_toArray, List.set_cons_zero, List.set_cons_succ]
                rfl
              refine one_ (i := 14) (N := none) #[true, true, true, true, true, true, true, true, true, true, true, true, true, true, true, false] rfl rfl (one_of HT_.out (by kernel_rfl)) (by decide) (fun K hK => ?_)
              have hs22 : w21.cell? ⟨gb139, 0, none⟩ = some (.int .u64 0) := (blk_cell BK139.out 0).trans rfl
              have hfs22 := blk_frozen BK139.out 0
              have hns22_0 := NB138_139.out
              have hns22_2 := NB140_139.out
              have hms22_0 := NB139_138.out
              have hms22_2 := NB139_140.out
              have hs23 : w21.cell? ⟨gb139, 1, none⟩ = some (.int .u64 0) := (blk_cell BK139.out 1).trans rfl
              have hfs23 := blk_frozen BK139.out 1
              have hns23_0 := NB138_139.out
              have hns23_2 := NB140_139.out
              have hms23_0 := NB139_138.out
              have hms23_2 := NB139_140.out
              refine skip_ (w1 := ?_) (by rfl) rfl ?_ ?_
              rotate_left
              · go_simp
                rfl
              refine hK.out _ _ ⟨((cell_far (p := ⟨gb139, _, none⟩) NB138_139.out _).trans (((cell_far (p := ⟨gb139, _, none⟩) NB138_139.out _).trans (hHeld.1)))), ((cell_far (p := ⟨gb139, _, none⟩) NB138_139.out _).trans (((cell_far (p := ⟨gb139, _, none⟩) NB138_139.out _).trans (hHeld.2))))⟩ (fun hHeld => ?_)
              clear hK K
              refine one_ (i := 15) (N := none) #[true, true, true, true, true, true, true, true, true, true, true, true, true, true, true, true] rfl rfl (one_of HT_.out (by kernel_rfl)) (by decide) (fun K hK => ?_)
              have hs24 : w21.cell? ⟨gb140, 0, none⟩ = some (.int .u64 0) := (blk_cell BK140.out 0).trans rfl
              have hfs24 := blk_frozen BK140.out 0
              have hns24_0 := NB138_140.out
              have hns24_1 := NB139_140.out
              have hms24_0 := NB140_138.out
              have hms24_1 := NB140_139.out
              have hs25 : w21.cell? ⟨gb140, 1, none⟩ = some (.int .u64 0) := (blk_cell BK140.out 1).trans rfl
              have hfs25 := blk_frozen BK140.out 1
              have hns25_0 := NB138_140.out
              have hns25_1 := NB139_140.out
              have hms25_0 := NB140_138.out
              have hms25_1 := NB140_139.out
              refine skip_ (w1 := ?_) (by rfl) rfl ?_ ?_
              rotate_left
              · go_simp
                rfl
              refine hK.out _ _ ⟨((cell_far (p := ⟨gb140, _, none⟩) NB138_140.out _).trans (((cell_far (p := ⟨gb140, _, none⟩) NB138_140.out _).trans (hHeld.1)))), ((cell_far (p := ⟨gb140, _, none⟩) NB138_140.out _).trans (((cell_far (p := ⟨gb140, _, none⟩) NB138_140.out _).trans (hHeld.2))))⟩ (fun hHeld => ?_)
              clear hK K
              refine done_ (done_of HT_.out (by kernel_rfl)) ?_
              have hnb26 := NB139_138.out
              have hnc26 := NB138_139.out
              have hnb27 := NB139_140.out
              have hnc27 := NB140_139.out
              have hcz28_0 : w21.cell? ⟨gb139, 0, none⟩ = some (.int .u64 0) := (blk_cell BK139.out 0).trans rfl
              have hcz28_1 : w21.cell? ⟨gb139, 1, none⟩ = some (.int .u64 0) := (blk_cell BK139.out 1).trans rfl
              have hfz28_0 := blk_frozen BK139.out 0
              have hfz28_1 := blk_frozen BK139.out 1
              try go_wp2_with (first | ((with_reducible refine gate_callee (f := 4) rfl ?_); refine goesL_ (some 28) rfl rfl Try.func4 (by kernel_rfl) rfl #[.agg #[.int .u64 a0_0, .int .u64 (Go.bits .andNot .u64 a0_1 1)]] rfl (by (try simp only [List.map_toArray, List.map_cons, List.map_nil]); first | done | rfl | (simp only [List.length_drop, List.length_take]; rfl)) ?_; (with_reducible refine (impl_Coverage.calls a0_0 (Go.bits .andNot .u64 a0_1 1) t141 t142 _ A5.out).mono ?_); rintro e w29 ⟨rfl, hb⟩; refine ⟨_, rfl, ?_⟩; have n0_ := Aside0.mk (blk_below (g := gb138) (o := .cells #[.int .u64 a0_0, .int .u64 a0_1] 25 (0, 0)) (by (with_reducible repeat (first | refine blk_drewN ?_ _ | refine blk_drew ?_ | refine blk_alloc ?_ _)); refine blk_far ?_ NB138_140.out _; (with_reducible repeat (first | refine blk_drewN ?_ _ | refine blk_drew ?_ | refine blk_alloc ?_ _)); refine blk_far ?_ NB138_140.out _; (with_reducible repeat (first | refine blk_drewN ?_ _ | refine blk_drew ?_ | refine blk_alloc ?_ _)); refine blk_far ?_ NB138_139.out _; (with_reducible repeat (first | refine blk_drewN ?_ _ | refine blk_drew ?_ | refine blk_alloc ?_ _)); refine blk_far ?_ NB138_139.out _; (with_reducible repeat (first | refine blk_drewN ?_ _ | refine blk_drew ?_ | refine blk_alloc ?_ _)); exact BK138.out) hb); have n1_ := Aside0.mk (blk_below (g := gb139) (o := .cells #[.int .u64 a0_0, .int .u64 (Go.bits .andNot .u64 a0_1 1)] 25 (0, 0)) (by (with_reducible repeat (first | refine blk_drewN ?_ _ | refine blk_drew ?_ | refine blk_alloc ?_ _)); refine blk_far ?_ NB139_140.out _; (with_reducible repeat (first | refine blk_drewN ?_ _ | refine blk_drew ?_ | refine blk_alloc ?_ _)); refine blk_far ?_ NB139_140.out _; (with_reducible repeat (first | refine blk_drewN ?_ _ | refine blk_drew ?_ | refine blk_alloc ?_ _)); refine blk_put (cs := #[.int .u64 a0_0, .int .u64 0]) ?_ 1 _ rfl; (with_reducible repeat (first | refine blk_drewN ?_ _ | refine blk_drew ?_ | refine blk_alloc ?_ _)); refine blk_put (cs := #[.int .u64 0, .int .u64 0]) ?_ 0 _ rfl; (with_reducible repeat (first | refine blk_drewN ?_ _ | refine blk_drew ?_ | refine blk_alloc ?_ _)); exact BK139.out) hb); have n2_ := Aside0.mk (blk_below (g := gb140) (o := .cells #[.int .u64 a0_0, .int .u64 (Go.bits .or .u64 a0_1 1)] 25 (0, 0)) (by (with_reducible repeat (first | refine blk_drewN ?_ _ | refine blk_drew ?_ | refine blk_alloc ?_ _)); refine blk_put (cs := #[.int .u64 a0_0, .int .u64 0]) ?_ 1 _ rfl; (with_reducible repeat (first | refine blk_drewN ?_ _ | refine blk_drew ?_ | refine blk_alloc ?_ _)); refine blk_put (cs := #[.int .u64 0, .int .u64 0]) ?_ 0 _ rfl; (with_reducible repeat (first | refine blk_drewN ?_ _ | refine blk_drew ?_ | refine blk_alloc ?_ _)); refine blk_far ?_ NB140_139.out _; (with_reducible repeat (first | refine blk_drewN ?_ _ | refine blk_drew ?_ | refine blk_alloc ?_ _)); refine blk_far ?_ NB140_139.out _; (with_reducible repeat (first | refine blk_drewN ?_ _ | refine blk_drew ?_ | refine blk_alloc ?_ _)); exact BK140.out) hb); have n3_ := Aside0.mk (below_step (by repeat (first | (with_reducible first | exact HB.out | apply below_alloc | apply pw_below_drewN | apply below_drew1 | refine below_set ?_ GE138.out | refine below_set ?_ GE139.out | refine below_set ?_ GE140.out) | exact HB.out)) hb); clear BK138; clear BK139; clear BK140; clear HB; have BK138 := n0_; have BK139 := n1_; have BK140 := n2_; have HB := n3_; clear n0_ n1_ n2_ n3_; (try clear hb); (try clear hb2); (try clear hk); (try clear hi); have hnb30 := NB140_138.out; have hnc30 := NB138_140.out; have hcz31_0 : w29.cell? ⟨gb140, 0, none⟩ = some (.int .u64 a0_0) := (blk_cell BK140.out 0).trans rfl; have hcz31_1 : w29.cell? ⟨gb140, 1, none⟩ = some (.int .u64 (Go.bits .or .u64 a0_1 1)) := (blk_cell BK140.out 1).trans rfl; have hfz31_0 := blk_frozen BK140.out 0; have hfz31_1 := blk_frozen BK140.out 1) | ((with_reducible refine gate_callee (f := 4) rfl ?_); refine goesL_ (some 33) rfl rfl Try.func4 (by kernel_rfl) rfl #[.agg #[.int .u64 a0_0, .int .u64 (Go.bits .or .u64 a0_1 1)]] rfl (by (try simp only [List.map_toArray, List.map_cons, List.map_nil]); first | done | rfl | (simp only [List.length_drop, List.length_take]; rfl)) ?_; (with_reducible refine (impl_Coverage.calls a0_0 (Go.bits .or .u64 a0_1 1) t143 t144 _ A6.out).mono ?_); rintro e w32 ⟨rfl, hb⟩; refine ⟨_, rfl, ?_⟩; have n0_ := Aside0.mk (blk_below (g := gb138) (o := .cells #[.int .u64 a0_0, .int .u64 a0_1] 25 (0, 0)) (by (with_reducible repeat (first | refine blk_drewN ?_ _ | refine blk_drew ?_ | refine blk_alloc ?_ _)); exact BK138.out) hb); have n1_ := Aside0.mk (blk_below (g := gb139) (o := .cells #[.int .u64 a0_0, .int .u64 (Go.bits .andNot .u64 a0_1 1)] 25 (0, 0)) (by (with_reducible repeat (first | refine blk_drewN ?_ _ | refine blk_drew ?_ | refine blk_alloc ?_ _)); exact BK139.out) hb); have n2_ := Aside0.mk (blk_below (g := gb140) (o := .cells #[.int .u64 a0_0, .int .u64 (Go.bits .or .u64 a0_1 1)] 25 (0, 0)) (by (with_reducible repeat (first | refine blk_drewN ?_ _ | refine blk_drew ?_ | refine blk_alloc ?_ _)); exact BK140.out) hb); have n3_ := Aside0.mk (below_step (by repeat (first | (with_reducible first | exact HB.out | apply below_alloc | apply pw_below_drewN | apply below_drew1 | refine below_set ?_ GE138.out | refine below_set ?_ GE139.out | refine below_set ?_ GE140.out) | exact HB.out)) hb); clear BK138; clear BK139; clear BK140; clear HB; have BK138 := n0_; have BK139 := n1_; have BK140 := n2_; have HB := n3_; clear n0_ n1_ n2_ n3_; (try clear hb); (try clear hb2); (try clear hk); (try clear hi); have hcz33_0 : w32.cell? ⟨gb138, 0, none⟩ = some (.int .u64 a0_0) := (blk_cell BK138.out 0).trans rfl; have hcz33_1 : w32.cell? ⟨gb138, 1, none⟩ = some (.int .u64 a0_1) := (blk_cell BK138.out 1).trans rfl; have hfz33_0 := blk_frozen BK138.out 0; have hfz33_1 := blk_frozen BK138.out 1) | ((with_reducible refine gate_callee (f := 5) rfl ?_); refine goesL_ (some 38) rfl rfl Try.func5 (by kernel_rfl) rfl #[.agg #[.int .u64 a0_0, .int .u64 a0_1]] rfl (by (try simp only [List.map_toArray, List.map_cons, List.map_nil]); first | done | rfl | (simp only [List.length_drop, List.length_take]; rfl)) ?_; (with_reducible refine (impl_Parent.calls a0_0 a0_1 t145 t146 _ A7.out).mono ?_); rintro e w34 ⟨rfl, hb⟩; refine ⟨_, rfl, ?_⟩; have n0_ := Aside0.mk (blk_below (g := gb138) (o := .cells #[.int .u64 a0_0, .int .u64 a0_1] 25 (0, 0)) (by (with_reducible repeat (first | refine blk_drewN ?_ _ | refine blk_drew ?_ | refine blk_alloc ?_ _)); exact BK138.out) hb); have n1_ := Aside0.mk (blk_below (g := gb139) (o := .cells #[.int .u64 a0_0, .int .u64 (Go.bits .andNot .u64 a0_1 1)] 25 (0, 0)) (by (with_reducible repeat (first | refine blk_drewN ?_ _ | refine blk_drew ?_ | refine blk_alloc ?_ _)); exact BK139.out) hb); have n2_ := Aside0.mk (blk_below (g := gb140) (o := .cells #[.int .u64 a0_0, .int .u64 (Go.bits .or .u64 a0_1 1)] 25 (0, 0)) (by (with_reducible repeat (first | refine blk_drewN ?_ _ | refine blk_drew ?_ | refine blk_alloc ?_ _)); exact BK140.out) hb); have n3_ := Aside0.mk (below_step (by repeat (first | (with_reducible first | exact HB.out | apply below_alloc | apply pw_below_drewN | apply below_drew1 | refine below_set ?_ GE138.out | refine below_set ?_ GE139.out | refine below_set ?_ GE140.out) | exact HB.out)) hb); clear BK138; clear BK139; clear BK140; clear HB; have BK138 := n0_; have BK139 := n1_; have BK140 := n2_; have HB := n3_; clear n0_ n1_ n2_ n3_; (try clear hb); (try clear hb2); (try clear hk); (try clear hi)) | ((with_reducible refine gate_callee (f := 4) rfl ?_); refine goesL_ (some 39) rfl rfl Try.func4 (by kernel_rfl) rfl #[.agg #[.int .u64 t145, .int .u64 t146]] rfl (by (try simp only [List.map_toArray, List.map_cons, List.map_nil]); first | done | rfl | (simp only [List.length_drop, List.length_take]; rfl)) ?_; (with_reducible refine (impl_Coverage.calls t145 t146 t147 t148 _ A8.out).mono ?_); rintro e w35 ⟨rfl, hb⟩; refine ⟨_, rfl, ?_⟩; have n0_ := Aside0.mk (blk_below (g := gb138) (o := .cells #[.int .u64 a0_0, .int .u64 a0_1] 25 (0, 0)) (by (with_reducible repeat (first | refine blk_drewN ?_ _ | refine blk_drew ?_ | refine blk_alloc ?_ _)); exact BK138.out) hb); have n1_ := Aside0.mk (blk_below (g := gb139) (o := .cells #[.int .u64 a0_0, .int .u64 (Go.bits .andNot .u64 a0_1 1)] 25 (0, 0)) (by (with_reducible repeat (first | refine blk_drewN ?_ _ | refine blk_drew ?_ | refine blk_alloc ?_ _)); exact BK139.out) hb); have n2_ := Aside0.mk (blk_below (g := gb140) (o := .cells #[.int .u64 a0_0, .int .u64 (Go.bits .or .u64 a0_1 1)] 25 (0, 0)) (by (with_reducible repeat (first | refine blk_drewN ?_ _ | refine blk_drew ?_ | refine blk_alloc ?_ _)); exact BK140.out) hb); have n3_ := Aside0.mk (below_step (by repeat (first | (with_reducible first | exact HB.out | apply below_alloc | apply pw_below_drewN | apply below_drew1 | refine below_set ?_ GE138.out | refine below_set ?_ GE139.out | refine below_set ?_ GE140.out) | exact HB.out)) hb); clear BK138; clear BK139; clear BK140; clear HB; have BK138 := n0_; have BK139 := n1_; have BK140 := n2_; have HB := n3_; clear n0_ n1_ n2_ n3_; (try clear hb); (try clear hb2); (try clear hk); (try clear hi)))
              have n0_ := Aside0.mk (blk_drew BK138.out)
              have n1_ := Aside0.mk (blk_drew BK139.out)
              have n2_ := Aside0.mk (blk_drew BK140.out)
              have n3_ := Aside0.mk (below_drew1 HB.out)
              clear BK138
              clear BK139
              clear BK140
              clear HB
              have BK138 := n0_
              have BK139 := n1_
              have BK140 := n2_
              have HB := n3_
              clear n0_ n1_ n2_ n3_
              refine start_ (n := 29) (S := fun w' => w'.cell? ⟨gb138, 0, none⟩ = some (.int .u64 a0_0) ∧ w'.cell? ⟨gb138, 1, none⟩ = some (.int .u64 a0_1) ∧ w'.cell? ⟨gb139, 0, none⟩ = some (.int .u64 a0_0) ∧ w'.cell? ⟨gb139, 1, none⟩ = some (.int .u64 (Go.bits .andNot .u64 a0_1 1)) ∧ w'.cell? ⟨gb140, 0, none⟩ = some (.int .u64 a0_0) ∧ w'.cell? ⟨gb140, 1, none⟩ = some (.int .u64 (Go.bits .or .u64 a0_1 1))) (ds := []) #[false, false, false, false, false, false, false, false, false, false, false, false, false, false, false, false, false, false, false, false, false, false, false, false, false, false, false, false, false] (by kernel_rfl) rfl rfl ⟨(blk_cell BK138.out 0).trans rfl, (blk_cell BK138.out 1).trans rfl, (blk_cell BK139.out 0).trans rfl, (blk_cell BK139.out 1).trans rfl, (blk_cell BK140.out 0).trans rfl, (blk_cell BK140.out 1).trans rfl⟩ (fun hHeld => ?_); refine with_tabW lawFC.tab7 lawFC.bits7 (fun HT_ HW_ => ?_)
              generalize w35.drew = w36 at BK138 BK139 BK140 HB hHeld ⊢
              refine pure_ (i := 0) (N := some 42) (v := ?_) (a' := ?_) #[true, false, false, false, false, false, false, false, false, false, false, false, false, false, false, false, false, false, false, false, false, false, false, false, false, false, false, false, false] rfl rfl (any_of HT_.out (by kernel_rfl)) (fun _ _ _ h => h) (Or.inl ⟨by rfl, ?_⟩) ?_ ?_
              rotate_left
              · intro w'
                go_simp
                with_reducible rfl
              rotate_left
              · simp only [Act.put, List.setIfInBounds_toArray, List.set_cons_zero, List.set_cons_succ]
                rfl
              refine pure_ (i := 1) (N := some 43) (v := ?_) (a' := ?_) #[true, true, false, false, false, false, false, false, false, false, false, false, false, false, false, false, false, false, false, false, false, false, false, false, false, false, false, false, false] rfl rfl (any_of HT_.out (by kernel_rfl)) (fun _ _ _ h => h) (Or.inl ⟨by rfl, ?_⟩) ?_ ?_
              rotate_left
              · intro w'
                go_simp
                with_reducible rfl
              rotate_left
              · simp only [Act.put, List.setIfInBounds_toArray, List.set_cons_zero, List.set_cons_succ]
                rfl
              refine pure_ (i := 2) (N := some 44) (v := ?_) (a' := ?_) #[true, true, true, false, false, false, false, false, false, false, false, false, false, false, false, false, false, false, false, false, false, false, false, false, false, false, false, false, false] rfl rfl (any_of HT_.out (by kernel_rfl)) (fun _ _ _ h => h) (Or.inl ⟨by rfl, ?_⟩) ?_ ?_
              rotate_left
              · intro w'
                go_simp
                with_reducible rfl
              rotate_left
              · simp only [Act.put, List.setIfInBounds_toArray, List.set_cons_zero, List.set_cons_succ]
                rfl
              refine pure_ (i := 3) (N := some 45) (v := ?_) (a' := ?_) #[true, true, true, true, false, false, false, false, false, false, false, false, false, false, false, false, false, false, false, false, false, false, false, false, false, false, false, false, false] rfl rfl (any_of HT_.out (by kernel_rfl)) (fun _ _ _ h => h) (Or.inl ⟨by rfl, ?_⟩) ?_ ?_
              rotate_left
              · intro w'
                go_simp
                with_reducible rfl
              rotate_left
              · simp only [Act.put, List.setIfInBounds_toArray, List.set_cons_zero, List.set_cons_succ]
                rfl
              refine pure_ (i := 4) (N := some 46) (v := ?_) (a' := ?_) #[true, true, true, true, true, false, false, false, false, false, false, false, false, false, false, false, false, false, false, false, false, false, false, false, false, false, false, false, false] rfl rfl (any_of HT_.out (by kernel_rfl)) (fun _ _ _ h => h) (Or.inl ⟨by rfl, ?_⟩) ?_ ?_
              rotate_left
              · intro w'
                go_simp
                with_reducible rfl
              rotate_left
              · simp only [Act.put, List.setIfInBounds_toArray, List.set_cons_zero, List.set_cons_succ]
                rfl
              refine pure_ (i := 5) (N := some 47) (v := ?_) (a' := ?_) #[true, true, true, true, true, true, false, false, false, false, false, false, false, false, false, false, false, false, false, false, false, false, false, false, false, false, false, false, false] rfl rfl (any_of HT_.out (by kernel_rfl)) (fun _ _ _ h => h) (Or.inl ⟨by rfl, ?_⟩) ?_ ?_
              rotate_left
              · intro w'
                go_simp
                with_reducible rfl
              rotate_left
              · simp only [Act.put, List.setIfInBounds_toArray, List.set_cons_zero, List.set_cons_succ]
                rfl
              refine pure_ (i := 6) (N := some 48) (v := ?_) (a' := ?_) #[true, true, true, true, true, true, true, false, false, false, false, false, false, false, false, false, false, false, false, false, false, false, false, false, false, false, false, false, false] rfl rfl (any_of HT_.out (by kernel_rfl)) (fun _ _ _ h => h) (Or.inl ⟨by rfl, ?_⟩) ?_ ?_
              rotate_left
              · intro w'
                go_simp
                with_reducible rfl
              rotate_left
              · simp only [Act.put, List.setIfInBounds_toArray, List.set_cons_zero, List.set_cons_succ]
                rfl
              refine pure_ (i := 7) (N := some 49) (v := ?_) (a' := ?_) #[true, true, true, true, true, true, true, true, false, false, false, false, false, false, false, false, false, false, false, false, false, false, false, false, false, false, false, false, false] rfl rfl (any_of HT_.out (by kernel_rfl)) (fun _ _ _ h => h) (Or.inl ⟨by rfl, ?_⟩) ?_ ?_
              rotate_left
              · intro w'
                go_simp
                with_reducible rfl
              rotate_left
              · simp only [Act.put, List.setIfInBounds_toArray, List.set_cons_zero, List.set_cons_succ]
                rfl
              refine pure_ (i := 8) (N := some 50) (v := ?_) (a' := ?_) #[true, true, true, true, true, true, true, true, true, false, false, false, false, false, false, false, false, false, false, false, false, false, false, false, false, false, false, false, false] rfl rfl (any_of HT_.out (by kernel_rfl)) (fun _ _ _ h => h) (Or.inl ⟨by rfl, ?_⟩) ?_ ?_
              rotate_left
              · intro w'
                go_simp
                with_reducible rfl
              rotate_left
              · simp only [Act.put, List.setIfInBounds_toArray, List.set_cons_zero, List.set_cons_succ]
                rfl
              refine pure_ (i := 9) (N := some 51) (v := ?_) (a' := ?_) #[true, true, true, true, true, true, true, true, true, true, false, false, false, false, false, false, false, false, false, false, false, false, false, false, false, false, false, false, false] rfl rfl (any_of HT_.out (by kernel_rfl)) (fun _ _ _ h => h) (Or.inl ⟨by rfl, ?_⟩) ?_ ?_
              rotate_left
              · intro w'
                go_simp
                with_reducible rfl
              rotate_left
              · simp only [Act.put, List.setIfInBounds_toArray, List.set_cons_zero, List.set_cons_succ]
                rfl
              refine pure_ (i := 10) (N := some 52) (v := ?_) (a' := ?_) #[true, true, true, true, true, true, true, true, true, true, true, false, false, false, false, false, false, false, false, false, false, false, false, false, false, false, false, false, false] rfl rfl (any_of HT_.out (by kernel_rfl)) (fun _ _ _ h => h) (Or.inl ⟨by rfl, ?_⟩) ?_ ?_
              rotate_left
              · intro w'
                go_simp
                with_reducible rfl
              rotate_left
              · simp only [Act.put, List.setIfInBounds_toArray, List.set_cons_zero, List.set_cons_succ]
                rfl
              refine pure_ (i := 11) (N := some 53) (v := ?_) (a' := ?_) #[true, true, true, true, true, true, true, true, true, true, true, true, false, false, false, false, false, false, false, false, false, false, false, false, false, false, false, false, false] rfl rfl (any_of HT_.out (by kernel_rfl)) (fun _ _ _ h => h) (Or.inl ⟨by rfl, ?_⟩) ?_ ?_
              rotate_left
              · intro w'
                go_simp
                with_reducible rfl
              rotate_left
              · simp only [Act.put, List.setIfInBounds_toArray, List.set_cons_zero, List.set_cons_succ]
                rfl
              refine pure_ (i := 12) (N := some 54) (v := ?_) (a' := ?_) #[true, true, true, true, true, true, true, true, true, true, true, true, true, false, false, false, false, false, false, false, false, false, false, false, false, false, false, false, false] rfl rfl (any_of HT_.out (by kernel_rfl)) (fun _ _ _ h => h) (Or.inl ⟨by rfl, ?_⟩) ?_ ?_
              rotate_left
              · intro w'
                go_simp
                with_reducible rfl
              rotate_left
              · simp only [Act.put, List.setIfInBounds_toArray, List.set_cons_zero, List.set_cons_succ]
                rfl
              refine pure_ (i := 13) (N := some 55) (v := ?_) (a' := ?_) #[true, true, true, true, true, true, true, true, true, true, true, true, true, true, false, false, false, false, false, false, false, false, false, false, false, false, false, false, false] rfl rfl (any_of HT_.out (by kernel_rfl)) (fun _ _ _ h => h) (Or.inl ⟨by rfl, ?_⟩) ?_ ?_
              rotate_left
              · intro w'
                go_simp
                with_reducible rfl
              rotate_left
              · simp only [Act.put, List.setIfInBounds_toArray, List.set_cons_zero, List.set_cons_succ]
                rfl
              refine pure_ (i := 14) (N := some 56) (v := ?_) (a' := ?_) #[true, true, true, true, true, true, true, true, true, true, true, true, true, true, true, false, false, false, false, false, false, false, false, false, false, false, false, false, false] rfl rfl (any_of HT_.out (by kernel_rfl)) (fun _ _ _ h => h) (Or.inl ⟨by rfl, ?_⟩) ?_ ?_
              rotate_left
              · intro w'
                go_simp
                with_reducible rfl
              rotate_left
              · simp only [Act.put, List.setIfInBounds_toArray, List.set_cons_zero, List.set_cons_succ]
                rfl
              refine pure_ (i := 15) (N := some 57) (v := ?_) (a' := ?_) #[true, true, true, true, true, true, true, true, true, true, true, true, true, true, true, true, false, false, false, false, false, false, false, false, false, false, false, false, false] rfl rfl (any_of HT_.out (by kernel_rfl)) (fun _ _ _ h => h) (Or.inl ⟨by rfl, ?_⟩) ?_ ?_
              rotate_left
              · intro w'
                go_simp
                with_reducible rfl
              rotate_left
              · simp only [Act.put, List.setIfInBounds_toArray, List.set_cons_zero, List.set_cons_succ]
                rfl
              refine pure_ (i := 16) (N := some 58) (v := ?_) (a' := ?_) #[true, true, true, true, true, true, true, true, true, true, true, true, true, true, true, true, true, false, false, false, false, false, false, false, false, false, false, false, false] rfl rfl (any_of HT_.out (by kernel_rfl)) (fun _ _ _ h => h) (Or.inl ⟨by rfl, ?_⟩) ?_ ?_
              rotate_left
              · intro w'
                go_simp
                with_reducible rfl
              rotate_left
              · simp only [Act.put, List.setIfInBounds_toArray, List.set_cons_zero, List.set_cons_succ]
                rfl
              refine pure_ (i := 17) (N := some 59) (v := ?_) (a' := ?_) #[true, true, true, true, true, true, true, true, true, true, true, true, true, true, true, true, true, true, false, false, false, false, false, false, false, false, false, false, false] rfl rfl (any_of HT_.out (by kernel_rfl)) (fun _ _ _ h => h) (Or.inl ⟨by rfl, ?_⟩) ?_ ?_
              rotate_left
              · intro w'
                go_simp
                with_reducible rfl
              rotate_left
              · simp only [Act.put, List.setIfInBounds_toArray, List.set_cons_zero, List.set_cons_succ]
                rfl
              refine take_ (i := 18) (N := some 60) (v := ?_) (a' := ?_) #[true, true, true, true, true, true, true, true, true, true, true, true, true, true, true, true, true, true, true, false, false, false, false, false, false, false, false, false, false] rfl rfl (take_ofW HT_.out HW_.out (by kernel_rfl)) (fun _ _ _ h => h) (Or.inl ⟨by rfl, ?_⟩) hHeld ?_ ?_
              rotate_left
              · rintro w' ⟨s0, s1, s2, s3, s4, s5⟩
                go_simp
                with_reducible rfl
              rotate_left
              · simp only [Act.put, List.setIfInBounds_toArray, List.set_cons_zero, List.set_cons_succ]
                rfl
              refine pure_ (i := 19) (N := some 61) (v := ?_) (a' := ?_) #[true, true, true, true, true, true, true, true, true, true, true, true, true, true, true, true, true, true, true, true, false, false, false, false, false, false, false, false, false] rfl rfl (any_of HT_.out (by kernel_rfl)) (fun _ _ _ h => h) (Or.inl ⟨by rfl, ?_⟩) ?_ ?_
              rotate_left
              · intro w'
                go_simp
                with_reducible rfl
              rotate_left
              · simp only [Act.put, List.setIfInBounds_toArray, List.set_cons_zero, List.set_cons_succ]
                rfl
              refine pure_ (i := 20) (N := some 62) (v := ?_) (a' := ?_) #[true, true, true, true, true, true, true, true, true, true, true, true, true, true, true, true, true, true, true, true, true, false, false, false, false, false, false, false, false] rfl rfl (any_of HT_.out (by kernel_rfl)) (fun _ _ _ h => h) (Or.inl ⟨by rfl, ?_⟩) ?_ ?_
              rotate_left
              · intro w'
                go_simp
                with_reducible rfl
              rotate_left
              · simp only [Act.put, List.setIfInBounds_toArray, List.set_cons_zero, List.set_cons_succ]
                rfl
              refine pure_ (i := 21) (N := some 63) (v := ?_) (a' := ?_) #[true, true, true, true, true, true, true, true, true, true, true, true, true, true, true, true, true, true, true, true, true, true, false, false, false, false, false, false, false] rfl rfl (any_of HT_.out (by kernel_rfl)) (fun _ _ _ h => h) (Or.inl ⟨by rfl, ?_⟩) ?_ ?_
              rotate_left
              · intro w'
                go_simp
                with_reducible rfl
              rotate_left
              · simp only [Act.put, List.setIfInBounds_toArray, List.set_cons_zero, List.set_cons_succ]
                rfl
              refine pure_ (i := 22) (N := some 64) (v := ?_) (a' := ?_) #[true, true, true, true, true, true, true, true, true, true, true, true, true, true, true, true, true, true, true, true, true, true, true, false, false, false, false, false, false] rfl rfl (any_of HT_.out (by kernel_rfl)) (fun _ _ _ h => h) (Or.inl ⟨by rfl, ?_⟩) ?_ ?_
              rotate_left
              · intro w'
                go_simp
                with_reducible rfl
              rotate_left
              · simp only [Act.put, List.setIfInBounds_toArray, List.set_cons_zero, List.set_cons_succ]
                rfl
              refine take_ (i := 23) (N := some 65) (v := ?_) (a' := ?_) #[true, true, true, true, true, true, true, true, true, true, true, true, true, true, true, true, true, true, true, true, true, true, true, true, false, false, false, false, false] rfl rfl (take_ofW HT_.out HW_.out (by kernel_rfl)) (fun _ _ _ h => h) (Or.inl ⟨by rfl, ?_⟩) hHeld ?_ ?_
              rotate_left
              · rintro w' ⟨s0, s1, s2, s3, s4, s5⟩
                go_simp
                with_reducible rfl
              rotate_left
              · simp only [Act.put, List.setIfInBounds_toArray, List.set_cons_zero, List.set_cons_succ]
                rfl
              refine take_ (i := 25) (N := some 67) (v := ?_) (a' := ?_) #[true, true, true, true, true, true, true, true, true, true, true, true, true, true, true, true, true, true, true, true, true, true, true, true, false, true, false, false, false] rfl rfl (take_ofW HT_.out HW_.out (by kernel_rfl)) (fun _ _ _ h => h) (Or.inl ⟨by rfl, ?_⟩) hHeld ?_ ?_
              rotate_left
              · rintro w' ⟨s0, s1, s2, s3, s4, s5⟩
                go_simp
                with_reducible rfl
              rotate_left
              · simp only [Act.put, List.setIfInBounds_toArray, List.set_cons_zero, List.set_cons_succ]
                rfl
              refine one_ (i := 24) (N := some 66) #[true, true, true, true, true, true, true, true, true, true, true, true, true, true, true, true, true, true, true, true, true, true, true, true, true, true, false, false, false] rfl rfl (one_of HT_.out (by kernel_rfl)) (by decide) (fun K hK => ?_)
              refine goes_ Try.func6 (by kernel_rfl) rfl #[.agg #[.int .u64 a0_0, .int .u64 (Go.bits .andNot .u64 a0_1 1)]] (by rfl) rfl rfl (by (try simp only [List.map_toArray, List.map_cons, List.map_nil]); first | done | rfl | (simp only [List.length_drop, List.length_take]; rfl)) ?_
              with_reducible refine (impl_Sibling.calls a0_0 (Go.bits .andNot .u64 a0_1 1) t149 t150 _ A15.out).mono ?_
              rintro e w37 ⟨rfl, hb⟩
              refine ⟨_, rfl, ?_⟩
              have n0_ := Aside0.mk (blk_below (g := gb138) (o := .cells #[.int .u64 a0_0, .int .u64 a0_1] 25 (0, 0)) (by (with_reducible repeat (first | refine blk_drewN ?_ _ | refine blk_drew ?_ | refine blk_alloc ?_ _)); exact BK138.out) hb)
              have n1_ := Aside0.mk (blk_below (g := gb139) (o := .cells #[.int .u64 a0_0, .int .u64 (Go.bits .andNot .u64 a0_1 1)] 25 (0, 0)) (by (with_reducible repeat (first | refine blk_drewN ?_ _ | refine blk_drew ?_ | refine blk_alloc ?_ _)); exact BK139.out) hb)
              have n2_ := Aside0.mk (blk_below (g := gb140) (o := .cells #[.int .u64 a0_0, .int .u64 (Go.bits .or .u64 a0_1 1)] 25 (0, 0)) (by (with_reducible repeat (first | refine blk_drewN ?_ _ | refine blk_drew ?_ | refine blk_alloc ?_ _)); exact BK140.out) hb)
              have n3_ := Aside0.mk (below_step (by repeat (first | (with_reducible first | exact HB.out | apply below_alloc | apply pw_below_drewN | apply below_drew1 | refine below_set ?_ GE138.out | refine below_set ?_ GE139.out | refine below_set ?_ GE140.out) | exact HB.out)) hb)
              clear BK138
              clear BK139
              clear BK140
              clear HB
              have BK138 := n0_
              have BK139 := n1_
              have BK140 := n2_
              have HB := n3_
              clear n0_ n1_ n2_ n3_
              (try clear hb)
              (try clear hb2)
              (try clear hk)
              (try clear hi)
              refine hK.out _ _ ⟨(blk_cell BK138.out 0).trans rfl, (blk_cell BK138.out 1).trans rfl, (blk_cell BK139.out 0).trans rfl, (blk_cell BK139.out 1).trans rfl, (blk_cell BK140.out 0).trans rfl, (blk_cell BK140.out 1).trans rfl⟩ (fun hHeld => ?_)
              clear hK K
              refine norm_ (a' := ?_) ?_ ?_
              rotate_left
              · show Act.put _ (some 66) _ = _
                simp only [Act.put, List.setIfInBounds_toArray, List.set_cons_zero, List.set_cons_succ]
                rfl
              refine pure_ (i := 26) (N := some 68) (v := ?_) (a' := ?_) #[true, true, true, true, true, true, true, true, true, true, true, true, true, true, true, true, true, true, true, true, true, true, true, true, true, true, true, false, false] rfl rfl (any_of HT_.out (by kernel_rfl)) (fun _ _ _ h => h) (Or.inl ⟨by rfl, ?_⟩) ?_ ?_
              rotate_left
              · intro w'
                go_simp
                with_reducible rfl
              rotate_left
              · simp only [Act.put, List.setIfInBounds_toArray, List.set_cons_zero, List.set_cons_succ]
                rfl
              refine pure_ (i := 27) (N := some 69) (v := ?_) (a' := ?_) #[true, true, true, true, true, true, true, true, true, true, true, true, true, true, true, true, true, true, true, true, true, true, true, true, true, true, true, true, false] rfl rfl (any_of HT_.out (by kernel_rfl)) (fun _ _ _ h => h) (Or.inl ⟨by rfl, ?_⟩) ?_ ?_
              rotate_left
              · intro w'
                go_simp
                with_reducible rfl
              rotate_left
              · simp only [Act.put, List.setIfInBounds_toArray, List.set_cons_zero, List.set_cons_succ]
                rfl
              refine pure_ (i := 28) (N := some 2) (v := ?_) (a' := ?_) #[true, true, true, true, true, true, true, true, true, true, true, true, true, true, true, true, true, true, true, true, true, true, true, true, true, true, true, true, true] rfl rfl (any_of HT_.out (by kernel_rfl)) (fun _ _ _ h => h) (Or.inl ⟨by rfl, ?_⟩) ?_ ?_
              rotate_left
              · intro w'
                go_simp
                with_reducible rfl
              rotate_left
              · simp only [Act.put, List.setIfInBounds_toArray, List.set_cons_zero, List.set_cons_succ]
                rfl
              refine done_ (done_of HT_.out (by kernel_rfl)) ?_
              try go_wp2
              go_ret
              exact ⟨by first | rfl | (simp [errW_none, errW_some] <;> rfl) | (simp only [← hji13]; first | rfl | (simp [errW_none, errW_some] <;> rfl)) | (simp [*, errW_none, errW_some] <;> rfl), by repeat (first | (with_reducible first | exact HB.out | apply below_alloc | apply pw_below_drewN | apply below_drew1 | refine below_set ?_ GE138.out | refine below_set ?_ GE139.out | refine below_set ?_ GE140.out) | exact HB.out)⟩
            · rw [if_neg c14] at H
              have c14b0 : ((IntKind.u64.wrap (t142 - t141)) == (ji13)) = false := beq_eq_false_iff_ne.mpr c14
              have c14b1 : ((IntKind.u64.wrap (t142 - t141)) != (ji13)) = true := bne_iff_ne.mpr c14
              obtain rfl := Option.some.inj H
              go_enter Try.func3, Try.ntmps3
              try go_wp2_with (first | ((with_reducible refine gate_dst (N := 1) rfl ?_); refine box_event ?hg (N := 1) ?hd (cs := #[.int .u64 a0_0, .int .u64 a0_1]) (t := 25) ?hr ?_; (case hd => rfl); (case hg => rfl); (case hr => first | (go_simp; done) | (go_simp; rfl)); intro gb138 hg w38 hbox hb; have n0_ := Aside0.mk (below_step (by repeat (first | (with_reducible first | exact HB.out | apply below_alloc | apply pw_below_drewN | apply below_drew1) | exact HB.out)) hb); have n1_ := Aside0.mk (hbox); have n2_ := Aside0.mk ((by rw [hg]; exact (below_size (by repeat (first | (with_reducible first | exact HB.out | apply below_alloc | apply pw_below_drewN | apply below_drew1) | exact HB.out))) : w.heap.size ≤ gb138)); have n3_ := Aside0.mk ((by rw [hg]; exact (below_size (by repeat (first | (with_reducible first | exact HB.out | apply below_alloc | apply pw_below_drewN | apply below_drew1) | exact HB.out))) : w.heap.size ≤ gb138)); clear HB; have HB := n0_; have BK138 := n1_; have GW138 := n2_; have GE138 := n3_; clear n0_ n1_ n2_ n3_; clear hb hbox hg; have hcz39_0 : w38.cell? ⟨gb138, 0, none⟩ = some (.int .u64 a0_0) := (blk_cell BK138.out 0).trans rfl; have hcz39_1 : w38.cell? ⟨gb138, 1, none⟩ = some (.int .u64 a0_1) := (blk_cell BK138.out 1).trans rfl; have hfz39_0 := blk_frozen BK138.out 0; have hfz39_1 := blk_frozen BK138.out 1))
              have n0_ := Aside0.mk (blk_drew BK138.out)
              have n1_ := Aside0.mk (below_drew1 HB.out)
              clear BK138
              clear HB
              have BK138 := n0_
              have HB := n1_
              clear n0_ n1_
              refine start_ (n := 16) (S := fun w' => w'.cell? ⟨gb138, 0, none⟩ = some (.int .u64 a0_0) ∧ w'.cell? ⟨gb138, 1, none⟩ = some (.int .u64 a0_1)) (ds := []) #[false, false, false, false, false, false, false, false, false, false, false, false, false, false, false, false] (by kernel_rfl) rfl rfl ⟨(blk_cell BK138.out 0).trans rfl, (blk_cell BK138.out 1).trans rfl⟩ (fun hHeld => ?_); refine with_tabW lawFC.tab3 lawFC.bits3 (fun HT_ HW_ => ?_)
              generalize w38.drew = w40 at BK138 HB hHeld ⊢
              refine pure_ (i := 0) (N := some 14) (v := ?_) (a' := ?_) #[true, false, false, false, false, false, false, false, false, false, false, false, false, false, false, false] rfl rfl (any_of HT_.out (by kernel_rfl)) (fun _ _ _ h => h) (Or.inl ⟨by rfl, ?_⟩) ?_ ?_
              rotate_left
              · intro w'
                go_simp
                with_reducible rfl
              rotate_left
              · simp only [Act.put, List.setIfInBounds_toArray, List.set_cons_zero, List.set_cons_succ]
                rfl
              refine pure_ (i := 2) (N := some 16) (v := ?_) (a' := ?_) #[true, false, true, false, false, false, false, false, false, false, false, false, false, false, false, false] rfl rfl (any_of HT_.out (by kernel_rfl)) (fun _ _ _ h => h) (Or.inl ⟨by rfl, ?_⟩) ?_ ?_
              rotate_left
              · intro w'
                go_simp
                with_reducible rfl
              rotate_left
              · simp only [Act.put, List.setIfInBounds_toArray, List.set_cons_zero, List.set_cons_succ]
                rfl
              refine pure_ (i := 6) (N := some 20) (v := ?_) (a' := ?_) #[true, false, true, false, false, false, true, false, false, false, false, false, false, false, false, false] rfl rfl (any_of HT_.out (by kernel_rfl)) (fun _ _ _ h => h) (Or.inl ⟨by rfl, ?_⟩) ?_ ?_
              rotate_left
              · intro w'
                go_simp
                with_reducible rfl
              rotate_left
              · simp only [Act.put, List.setIfInBounds_toArray, List.set_cons_zero, List.set_cons_succ]
                rfl
              refine pure_ (i := 8) (N := some 22) (v := ?_) (a' := ?_) #[true, false, true, false, false, false, true, false, true, false, false, false, false, false, false, false] rfl rfl (any_of HT_.out (by kernel_rfl)) (fun _ _ _ h => h) (Or.inl ⟨by rfl, ?_⟩) ?_ ?_
              rotate_left
              · intro w'
                go_simp
                with_reducible rfl
              rotate_left
              · simp only [Act.put, List.setIfInBounds_toArray, List.set_cons_zero, List.set_cons_succ]
                rfl
              refine take_ (i := 1) (N := some 15) (v := ?_) (a' := ?_) #[true, true, true, false, false, false, true, false, true, false, false, false, false, false, false, false] rfl rfl (take_ofW HT_.out HW_.out (by kernel_rfl)) (fun _ _ _ h => h) (Or.inl ⟨by rfl, ?_⟩) hHeld ?_ ?_
              rotate_left
              · rintro w' ⟨s0, s1⟩
                go_simp
                with_reducible rfl
              rotate_left
              · simp only [Act.put, List.setIfInBounds_toArray, List.set_cons_zero, List.set_cons_succ]
                rfl
              refine take_ (i := 3) (N := some 17) (v := ?_) (a' := ?_) #[true, true, true, true, false, false, true, false, true, false, false, false, false, false, false, false] rfl rfl (take_ofW HT_.out HW_.out (by kernel_rfl)) (fun _ _ _ h => h) (Or.inl ⟨by rfl, ?_⟩) hHeld ?_ ?_
              rotate_left
              · rintro w' ⟨s0, s1⟩
                go_simp
                with_reducible rfl
              rotate_left
              · simp only [Act.put, List.setIfInBounds_toArray, List.set_cons_zero, List.set_cons_succ]
                rfl
              refine pure_ (i := 4) (N := some 18) (v := ?_) (a' := ?_) #[true, true, true, true, true, false, true, false, true, false, false, false, false, false, false, false] rfl rfl (any_of HT_.out (by kernel_rfl)) (fun _ _ _ h => h) (Or.inl ⟨by rfl, ?_⟩) ?_ ?_
              rotate_left
              · intro w'
                go_simp
                with_reducible rfl
              rotate_left
              · simp only [Act.put, List.setIfInBounds_toArray, List.set_cons_zero, List.set_cons_succ]
                rfl
              refine pure_ (i := 5) (N := some 19) (v := ?_) (a' := ?_) #[true, true, true, true, true, true, true, false, true, false, false, false, false, false, false, false] rfl rfl (any_of HT_.out (by kernel_rfl)) (fun _ _ _ h => h) (Or.inl ⟨by rfl, ?_⟩) ?_ ?_
              rotate_left
              · intro w'
                go_simp
                with_reducible rfl
              rotate_left
              · simp only [Act.put, List.setIfInBounds_toArray, List.set_cons_zero, List.set_cons_succ]
                rfl
              refine take_ (i := 7) (N := some 21) (v := ?_) (a' := ?_) #[true, true, true, true, true, true, true, true, true, false, false, false, false, false, false, false] rfl rfl (take_ofW HT_.out HW_.out (by kernel_rfl)) (fun _ _ _ h => h) (Or.inl ⟨by rfl, ?_⟩) hHeld ?_ ?_
              rotate_left
              · rintro w' ⟨s0, s1⟩
                go_simp
                with_reducible rfl
              rotate_left
              · simp only [Act.put, List.setIfInBounds_toArray, List.set_cons_zero, List.set_cons_succ]
                rfl
              refine take_ (i := 9) (N := some 23) (v := ?_) (a' := ?_) #[true, true, true, true, true, true, true, true, true, true, false, false, false, false, false, false] rfl rfl (take_ofW HT_.out HW_.out (by kernel_rfl)) (fun _ _ _ h => h) (Or.inl ⟨by rfl, ?_⟩) hHeld ?_ ?_
              rotate_left
              · rintro w' ⟨s0, s1⟩
                go_simp
                with_reducible rfl
              rotate_left
              · simp only [Act.put, List.setIfInBounds_toArray, List.set_cons_zero, List.set_cons_succ]
                rfl
              refine pure_ (i := 10) (N := some 24) (v := ?_) (a' := ?_) #[true, true, true, true, true, true, true, true, true, true, true, false, false, false, false, false] rfl rfl (any_of HT_.out (by kernel_rfl)) (fun _ _ _ h => h) (Or.inl ⟨by rfl, ?_⟩) ?_ ?_
              rotate_left
              · intro w'
                go_simp
                with_reducible rfl
              rotate_left
              · simp only [Act.put, List.setIfInBounds_toArray, List.set_cons_zero, List.set_cons_succ]
                rfl
              refine pure_ (i := 11) (N := some 25) (v := ?_) (a' := ?_) #[true, true, true, true, true, true, true, true, true, true, true, true, false, false, false, false] rfl rfl (any_of HT_.out (by kernel_rfl)) (fun _ _ _ h => h) (Or.inl ⟨by rfl, ?_⟩) ?_ ?_
              rotate_left
              · intro w'
                go_simp
                with_reducible rfl
              rotate_left
              · simp only [Act.put, List.setIfInBounds_toArray, List.set_cons_zero, List.set_cons_succ]
                rfl
              refine join_ (σ := Nat × Nat) 2 #[true, true, true, true, true, true, true, true, true, true, true, true, true, true, false, false] (fun s_ => [(3, .pointer (some ⟨s_.1, 0, none⟩)), (4, .pointer (some ⟨s_.2, 0, none⟩))]) (fun s_ w' => (w'.cell? ⟨gb138, 0, none⟩ = some (.int .u64 a0_0) ∧ w'.cell? ⟨gb138, 1, none⟩ = some (.int .u64 a0_1)) ∧ (w'.heap[gb138]? = some (.cells #[.int .u64 a0_0, .int .u64 a0_1] 25 (0, 0))) ∧ (w'.heap[s_.1]? = some (.cells #[.int .u64 0, .int .u64 0] 25 (0, 0))) ∧ (w'.heap[s_.2]? = some (.cells #[.int .u64 0, .int .u64 0] 25 (0, 0))) ∧ (w.heap.size ≤ s_.1) ∧ (w.heap.size ≤ s_.1) ∧ (gb138 ≠ s_.1) ∧ (s_.1 ≠ gb138) ∧ (s_.2 ≠ s_.1) ∧ (s_.1 ≠ s_.2) ∧ (w.heap.size ≤ s_.2) ∧ (w.heap.size ≤ s_.2) ∧ (gb138 ≠ s_.2) ∧ (s_.2 ≠ gb138) ∧ (Below w.heap.size w w')) ?_ ?_
              rotate_left
              · intro hCont
                refine two_ (i := 12) (j := 13) (Ni := some 3) (Nj := some 4) #[true, true, true, true, true, true, true, true, true, true, true, true, true, false, false, false] #[true, true, true, true, true, true, true, true, true, true, true, true, false, true, false, false] rfl rfl rfl rfl (two_of HT_.out (by kernel_rfl)) (by decide) (by decide) (fun K hK => ?_) (fun K hK => ?_)
                · skip
                  refine box_step ?hg (N := 3) ?hd (cs := #[.int .u64 0, .int .u64 0]) (t := 25) ?hr ?_; (case hd => rfl); (case hg => rfl); (case hr => first | (go_simp; done) | (go_simp; rfl))
                  intro gb139 hg w41 hbox hb
                  have n0_ := Aside0.mk (blk_below (g := gb138) (o := .cells #[.int .u64 a0_0, .int .u64 a0_1] 25 (0, 0)) (by (with_reducible repeat (first | refine blk_drewN ?_ _ | refine blk_drew ?_ | refine blk_alloc ?_ _)); exact BK138.out) hb)
                  have n1_ := Aside0.mk (below_step (by repeat (first | (with_reducible first | exact HB.out | apply below_alloc | apply pw_below_drewN | apply below_drew1 | refine below_set ?_ GE138.out) | exact HB.out)) hb)
                  have n2_ := Aside0.mk (hbox)
                  have n3_ := Aside0.mk ((by rw [hg]; exact (below_size (by repeat (first | (with_reducible first | exact HB.out | apply below_alloc | apply pw_below_drewN | apply below_drew1 | refine below_set ?_ GE138.out) | exact HB.out))) : w.heap.size ≤ gb139))
                  have n4_ := Aside0.mk ((by rw [hg]; exact (below_size (by repeat (first | (with_reducible first | exact HB.out | apply below_alloc | apply pw_below_drewN | apply below_drew1 | refine below_set ?_ GE138.out) | exact HB.out))) : w.heap.size ≤ gb139))
                  have n5_ := Aside0.mk ((by rw [hg]; exact Nat.ne_of_lt (blk_lt (g := gb138) (o := .cells #[.int .u64 a0_0, .int .u64 a0_1] 25 (0, 0)) (by (with_reducible repeat (first | refine blk_drewN ?_ _ | refine blk_drew ?_ | refine blk_alloc ?_ _)); exact BK138.out)) : gb138 ≠ gb139))
                  have n6_ := Aside0.mk ((by rw [hg]; exact Nat.ne_of_gt (blk_lt (g := gb138) (o := .cells #[.int .u64 a0_0, .int .u64 a0_1] 25 (0, 0)) (by (with_reducible repeat (first | refine blk_drewN ?_ _ | refine blk_drew ?_ | refine blk_alloc ?_ _)); exact BK138.out)) : gb139 ≠ gb138))
                  clear BK138
                  clear HB
                  have BK138 := n0_
                  have HB := n1_
                  have BK139 := n2_
                  have GW139 := n3_
                  have GE139 := n4_
                  have NB138_139 := n5_
                  have NB139_138 := n6_
                  clear n0_ n1_ n2_ n3_ n4_ n5_ n6_
                  clear hb hbox hg
                  refine hK.out _ _ ⟨(blk_cell BK138.out 0).trans rfl, (blk_cell BK138.out 1).trans rfl⟩ (fun hHeld => ?_)
                  clear hK K
                  refine norm_ (a' := ?_) ?_ ?_
                  rotate_left
                  · show Act.put _ (some 3) _ = _
                    simp only [Act.put, List.setIfInBounds_toArray, List.set_cons_zero, List.set_cons_succ]
                    rfl
                  refine one_ (i := 13) (N := some 4) #[true, true, true, true, true, true, true, true, true, true, true, true, true, true, false, false] rfl rfl (one_of HT_.out (by kernel_rfl)) (by decide) (fun K hK => ?_)
                  refine box_step ?hg (N := 4) ?hd (cs := #[.int .u64 0, .int .u64 0]) (t := 25) ?hr ?_; (case hd => rfl); (case hg => rfl); (case hr => first | (go_simp; done) | (go_simp; rfl))
                  intro gb140 hg w42 hbox hb
                  have n0_ := Aside0.mk (blk_below (g := gb138) (o := .cells #[.int .u64 a0_0, .int .u64 a0_1] 25 (0, 0)) (by (with_reducible repeat (first | refine blk_drewN ?_ _ | refine blk_drew ?_ | refine blk_alloc ?_ _)); exact BK138.out) hb)
                  have n1_ := Aside0.mk (blk_below (g := gb139) (o := .cells #[.int .u64 0, .int .u64 0] 25 (0, 0)) (by (with_reducible repeat (first | refine blk_drewN ?_ _ | refine blk_drew ?_ | refine blk_alloc ?_ _)); exact BK139.out) hb)
                  have n2_ := Aside0.mk (below_step (by repeat (first | (with_reducible first | exact HB.out | apply below_alloc | apply pw_below_drewN | apply below_drew1 | refine below_set ?_ GE138.out | refine below_set ?_ GE139.out) | exact HB.out)) hb)
                  have n3_ := Aside0.mk (hbox)
                  have n4_ := Aside0.mk ((by rw [hg]; exact (below_size (by repeat (first | (with_reducible first | exact HB.out | apply below_alloc | apply pw_below_drewN | apply below_drew1 | refine below_set ?_ GE138.out | refine below_set ?_ GE139.out) | exact HB.out))) : w.heap.size ≤ gb140))
                  have n5_ := Aside0.mk ((by rw [hg]; exact (below_size (by repeat (first | (with_reducible first | exact HB.out | apply below_alloc | apply pw_below_drewN | apply below_drew1 | refine below_set ?_ GE138.out | refine below_set ?_ GE139.out) | exact HB.out))) : w.heap.size ≤ gb140))
                  have n6_ := Aside0.mk ((by rw [hg]; exact Nat.ne_of_lt (blk_lt (g := gb138) (o := .cells #[.int .u64 a0_0, .int .u64 a0_1] 25 (0, 0)) (by (with_reducible repeat (first | refine blk_drewN ?_ _ | refine blk_drew ?_ | refine blk_alloc ?_ _)); exact BK138.out)) : gb138 ≠ gb140))
                  have n7_ := Aside0.mk ((by rw [hg]; exact Nat.ne_of_gt (blk_lt (g := gb138) (o := .cells #[.int .u64 a0_0, .int .u64 a0_1] 25 (0, 0)) (by (with_reducible repeat (first | refine blk_drewN ?_ _ | refine blk_drew ?_ | refine blk_alloc ?_ _)); exact BK138.out)) : gb140 ≠ gb138))
                  have n8_ := Aside0.mk ((by rw [hg]; exact Nat.ne_of_lt (blk_lt (g := gb139) (o := .cells #[.int .u64 0, .int .u64 0] 25 (0, 0)) (by (with_reducible repeat (first | refine blk_drewN ?_ _ | refine blk_drew ?_ | refine blk_alloc ?_ _)); exact BK139.out)) : gb139 ≠ gb140))
                  have n9_ := Aside0.mk ((by rw [hg]; exact Nat.ne_of_gt (blk_lt (g := gb139) (o := .cells #[.int .u64 0, .int .u64 0] 25 (0, 0)) (by (with_reducible repeat (first | refine blk_drewN ?_ _ | refine blk_drew ?_ | refine blk_alloc ?_ _)); exact BK139.out)) : gb140 ≠ gb139))
                  clear BK138
                  clear BK139
                  clear HB
                  have BK138 := n0_
                  have BK139 := n1_
                  have HB := n2_
                  have BK140 := n3_
                  have GW140 := n4_
                  have GE140 := n5_
                  have NB138_140 := n6_
                  have NB140_138 := n7_
                  have NB139_140 := n8_
                  have NB140_139 := n9_
                  clear n0_ n1_ n2_ n3_ n4_ n5_ n6_ n7_ n8_ n9_
                  clear hb hbox hg
                  refine hK.out _ _ ⟨(blk_cell BK138.out 0).trans rfl, (blk_cell BK138.out 1).trans rfl⟩ (fun hHeld => ?_)
                  clear hK K
                  refine norm_ (a' := ?_) ?_ ?_
                  rotate_left
                  · show Act.put _ (some 4) _ = _
                    simp only [Act.put, List.setIfInBounds_toArray, List.set_cons_zero, List.set_cons_succ]
                    rfl
                  exact norm_ (by simp only [putAll, Act.put, List.setIfInBounds_toArray, List.set_cons_zero, List.set_cons_succ]) (hCont (gb139, gb140) _ ⟨hHeld, (by (with_reducible repeat (first | refine blk_drewN ?_ _ | refine blk_drew ?_ | refine blk_alloc ?_ _)); exact BK138.out), (by (with_reducible repeat (first | refine blk_drewN ?_ _ | refine blk_drew ?_ | refine blk_alloc ?_ _)); exact BK139.out), (by (with_reducible repeat (first | refine blk_drewN ?_ _ | refine blk_drew ?_ | refine blk_alloc ?_ _)); exact BK140.out), GW139.out, GE139.out, NB138_139.out, NB139_138.out, NB140_139.out, NB139_140.out, GW140.out, GE140.out, NB138_140.out, NB140_138.out, (by repeat (first | (with_reducible first | exact HB.out | apply below_alloc | apply pw_below_drewN | apply below_drew1 | refine below_set ?_ GE138.out | refine below_set ?_ GE139.out | refine below_set ?_ GE140.out) | exact HB.out))⟩)
                · skip
                  refine box_step ?hg (N := 4) ?hd (cs := #[.int .u64 0, .int .u64 0]) (t := 25) ?hr ?_; (case hd => rfl); (case hg => rfl); (case hr => first | (go_simp; done) | (go_simp; rfl))
                  intro gb140 hg w41 hbox hb
                  have n0_ := Aside0.mk (blk_below (g := gb138) (o := .cells #[.int .u64 a0_0, .int .u64 a0_1] 25 (0, 0)) (by (with_reducible repeat (first | refine blk_drewN ?_ _ | refine blk_drew ?_ | refine blk_alloc ?_ _)); exact BK138.out) hb)
                  have n1_ := Aside0.mk (below_step (by repeat (first | (with_reducible first | exact HB.out | apply below_alloc | apply pw_below_drewN | apply below_drew1 | refine below_set ?_ GE138.out) | exact HB.out)) hb)
                  have n2_ := Aside0.mk (hbox)
                  have n3_ := Aside0.mk ((by rw [hg]; exact (below_size (by repeat (first | (with_reducible first | exact HB.out | apply below_alloc | apply pw_below_drewN | apply below_drew1 | refine below_set ?_ GE138.out) | exact HB.out))) : w.heap.size ≤ gb140))
                  have n4_ := Aside0.mk ((by rw [hg]; exact (below_size (by repeat (first | (with_reducible first | exact HB.out | apply below_alloc | apply pw_below_drewN | apply below_drew1 | refine below_set ?_ GE138.out) | exact HB.out))) : w.heap.size ≤ gb140))
                  have n5_ := Aside0.mk ((by rw [hg]; exact Nat.ne_of_lt (blk_lt (g := gb138) (o := .cells #[.int .u64 a0_0, .int .u64 a0_1] 25 (0, 0)) (by (with_reducible repeat (first | refine blk_drewN ?_ _ | refine blk_drew ?_ | refine blk_alloc ?_ _)); exact BK138.out)) : gb138 ≠ gb140))
                  have n6_ := Aside0.mk ((by rw [hg]; exact Nat.ne_of_gt (blk_lt (g := gb138) (o := .cells #[.int .u64 a0_0, .int .u64 a0_1] 25 (0, 0)) (by (with_reducible repeat (first | refine blk_drewN ?_ _ | refine blk_drew ?_ | refine blk_alloc ?_ _)); exact BK138.out)) : gb140 ≠ gb138))
                  clear BK138
                  clear HB
                  have BK138 := n0_
                  have HB := n1_
                  have BK140 := n2_
                  have GW140 := n3_
                  have GE140 := n4_
                  have NB138_140 := n5_
                  have NB140_138 := n6_
                  clear n0_ n1_ n2_ n3_ n4_ n5_ n6_
                  clear hb hbox hg
                  refine hK.out _ _ ⟨(blk_cell BK138.out 0).trans rfl, (blk_cell BK138.out 1).trans rfl⟩ (fun hHeld => ?_)
                  clear hK K
                  refine norm_ (a' := ?_) ?_ ?_
                  rotate_left
                  · show Act.put _ (some 4) _ = _
                    simp only [Act.put, List.setIfInBounds_toArray, List.set_cons_zero, List.set_cons_succ]
                    rfl
                  refine one_ (i := 12) (N := some 3) #[true, true, true, true, true, true, true, true, true, true, true, true, true, true, false, false] rfl rfl (one_of HT_.out (by kernel_rfl)) (by decide) (fun K hK => ?_)
                  refine box_step ?hg (N := 3) ?hd (cs := #[.int .u64 0, .int .u64 0]) (t := 25) ?hr ?_; (case hd => rfl); (case hg => rfl); (case hr => first | (go_simp; done) | (go_simp; rfl))
                  intro gb139 hg w42 hbox hb
                  have n0_ := Aside0.mk (blk_below (g := gb138) (o := .cells #[.int .u64 a0_0, .int .u64 a0_1] 25 (0, 0)) (by (with_reducible repeat (first | refine blk_drewN ?_ _ | refine blk_drew ?_ | refine blk_alloc ?_ _)); exact BK138.out) hb)
                  have n1_ := Aside0.mk (blk_below (g := gb140) (o := .cells #[.int .u64 0, .int .u64 0] 25 (0, 0)) (by (with_reducible repeat (first | refine blk_drewN ?_ _ | refine blk_drew ?_ | refine blk_alloc ?_ _)); exact BK140.out) hb)
                  have n2_ := Aside0.mk (below_step (by repeat (first | (with_reducible first | exact HB.out | apply below_alloc | apply pw_below_drewN | apply below_drew1 | refine below_set ?_ GE138.out | refine below_set ?_ GE140.out) | exact HB.out)) hb)
                  have n3_ := Aside0.mk (hbox)
                  have n4_ := Aside0.mk ((by rw [hg]; exact (below_size (by repeat (first | (with_reducible first | exact HB.out | apply below_alloc | apply pw_below_drewN | apply below_drew1 | refine below_set ?_ GE138.out | refine below_set ?_ GE140.out) | exact HB.out))) : w.heap.size ≤ gb139))
                  have n5_ := Aside0.mk ((by rw [hg]; exact (below_size (by repeat (first | (with_reducible first | exact HB.out | apply below_alloc | apply pw_below_drewN | apply below_drew1 | refine below_set ?_ GE138.out | refine below_set ?_ GE140.out) | exact HB.out))) : w.heap.size ≤ gb139))
                  have n6_ := Aside0.mk ((by rw [hg]; exact Nat.ne_of_lt (blk_lt (g := gb138) (o := .cells #[.int .u64 a0_0, .int .u64 a0_1] 25 (0, 0)) (by (with_reducible repeat (first | refine blk_drewN ?_ _ | refine blk_drew ?_ | refine blk_alloc ?_ _)); exact BK138.out)) : gb138 ≠ gb139))
                  have n7_ := Aside0.mk ((by rw [hg]; exact Nat.ne_of_gt (blk_lt (g := gb138) (o := .cells #[.int .u64 a0_0, .int .u64 a0_1] 25 (0, 0)) (by (with_reducible repeat (first | refine blk_drewN ?_ _ | refine blk_drew ?_ | refine blk_alloc ?_ _)); exact BK138.out)) : gb139 ≠ gb138))
                  have n8_ := Aside0.mk ((by rw [hg]; exact Nat.ne_of_lt (blk_lt (g := gb140) (o := .cells #[.int .u64 0, .int .u64 0] 25 (0, 0)) (by (with_reducible repeat (first | refine blk_drewN ?_ _ | refine blk_drew ?_ | refine blk_alloc ?_ _)); exact BK140.out)) : gb140 ≠ gb139))
                  have n9_ := Aside0.mk ((by rw [hg]; exact Nat.ne_of_gt (blk_lt (g := gb140) (o := .cells #[.int .u64 0, .int .u64 0] 25 (0, 0)) (by (with_reducible repeat (first | refine blk_drewN ?_ _ | refine blk_drew ?_ | refine blk_alloc ?_ _)); exact BK140.out)) : gb139 ≠ gb140))
                  clear BK138
                  clear BK140
                  clear HB
                  have BK138 := n0_
                  have BK140 := n1_
                  have HB := n2_
                  have BK139 := n3_
                  have GW139 := n4_
                  have GE139 := n5_
                  have NB138_139 := n6_
                  have NB139_138 := n7_
                  have NB140_139 := n8_
                  have NB139_140 := n9_
                  clear n0_ n1_ n2_ n3_ n4_ n5_ n6_ n7_ n8_ n9_
                  clear hb hbox hg
                  refine hK.out _ _ ⟨(blk_cell BK138.out 0).trans rfl, (blk_cell BK138.out 1).trans rfl⟩ (fun hHeld => ?_)
                  clear hK K
                  refine norm_ (a' := ?_) ?_ ?_
                  rotate_left
                  · show Act.put _ (some 3) _ = _
                    simp only [Act.put, List.setIfInBounds_toArray, List.set_cons_zero, List.set_cons_succ]
                    rfl
                  exact norm_ (by simp only [putAll, Act.put, List.setIfInBounds_toArray, List.set_cons_zero, List.set_cons_succ]) (hCont (gb139, gb140) _ ⟨hHeld, (by (with_reducible repeat (first | refine blk_drewN ?_ _ | refine blk_drew ?_ | refine blk_alloc ?_ _)); exact BK138.out), (by (with_reducible repeat (first | refine blk_drewN ?_ _ | refine blk_drew ?_ | refine blk_alloc ?_ _)); exact BK139.out), (by (with_reducible repeat (first | refine blk_drewN ?_ _ | refine blk_drew ?_ | refine blk_alloc ?_ _)); exact BK140.out), GW139.out, GE139.out, NB138_139.out, NB139_138.out, NB140_139.out, NB139_140.out, GW140.out, GE140.out, NB138_140.out, NB140_138.out, (by repeat (first | (with_reducible first | exact HB.out | apply below_alloc | apply pw_below_drewN | apply below_drew1 | refine below_set ?_ GE138.out | refine below_set ?_ GE140.out | refine below_set ?_ GE139.out) | exact HB.out))⟩)
              rintro ⟨gb139, gb140⟩ w43 ⟨hS_, h0_, h1_, h2_, h3_, h4_, h5_, h6_, h7_, h8_, h9_, h10_, h11_, h12_, h13_⟩
              have n0_ : Aside0 (w43.heap[gb138]? = some (.cells #[.int .u64 a0_0, .int .u64 a0_1] 25 (0, 0))) := ⟨h0_⟩
              have n1_ : Aside0 (w43.heap[gb139]? = some (.cells #[.int .u64 0, .int .u64 0] 25 (0, 0))) := ⟨h1_⟩
              have n2_ : Aside0 (w43.heap[gb140]? = some (.cells #[.int .u64 0, .int .u64 0] 25 (0, 0))) := ⟨h2_⟩
              have n3_ : Aside0 (w.heap.size ≤ gb139) := ⟨h3_⟩
              have n4_ : Aside0 (w.heap.size ≤ gb139) := ⟨h4_⟩
              have n5_ : Aside0 (gb138 ≠ gb139) := ⟨h5_⟩
              have n6_ : Aside0 (gb139 ≠ gb138) := ⟨h6_⟩
              have n7_ : Aside0 (gb140 ≠ gb139) := ⟨h7_⟩
              have n8_ : Aside0 (gb139 ≠ gb140) := ⟨h8_⟩
              have n9_ : Aside0 (w.heap.size ≤ gb140) := ⟨h9_⟩
              have n10_ : Aside0 (w.heap.size ≤ gb140) := ⟨h10_⟩
              have n11_ : Aside0 (gb138 ≠ gb140) := ⟨h11_⟩
              have n12_ : Aside0 (gb140 ≠ gb138) := ⟨h12_⟩
              have n13_ : Aside0 (Below w.heap.size w w43) := ⟨h13_⟩
              clear BK138
              clear HB
              clear h0_ h1_ h2_ h3_ h4_ h5_ h6_ h7_ h8_ h9_ h10_ h11_ h12_ h13_
              have BK138 := n0_
              have BK139 := n1_
              have BK140 := n2_
              have GW139 := n3_
              have GE139 := n4_
              have NB138_139 := n5_
              have NB139_138 := n6_
              have NB140_139 := n7_
              have NB139_140 := n8_
              have GW140 := n9_
              have GE140 := n10_
              have NB138_140 := n11_
              have NB140_138 := n12_
              have HB := n13_
              clear n0_ n1_ n2_ n3_ n4_ n5_ n6_ n7_ n8_ n9_ n10_ n11_ n12_ n13_
              have hHeld : w43.cell? ⟨gb138, 0, none⟩ = some (.int .u64 a0_0) ∧ w43.cell? ⟨gb138, 1, none⟩ = some (.int .u64 a0_1) := hS_
              refine norm_ (a' := ?_) ?_ ?_
              rotate_left
              · simp only [putAll, Act.put, List.setIfInBounds_toArray, List.set_cons_zero, List.set_cons_succ]
                rfl
              refine one_ (i := 14) (N := none) #[true, true, true, true, true, true, true, true, true, true, true, true, true, true, true, false] rfl rfl (one_of HT_.out (by kernel_rfl)) (by decide) (fun K hK => ?_)
              have hs44 : w43.cell? ⟨gb139, 0, none⟩ = some (.int .u64 0) := (blk_cell BK139.out 0).trans rfl
              have hfs44 := blk_frozen BK139.out 0
              have hns44_0 := NB138_139.out
              have hns44_2 := NB140_139.out
              have hms44_0 := NB139_138.out
              have hms44_2 := NB139_140.out
              have hs45 : w43.cell? ⟨gb139, 1, none⟩ = some (.int .u64 0) := (blk_cell BK139.out 1).trans rfl
              have hfs45 := blk_frozen BK139.out 1
              have hns45_0 := NB138_139.out
              have hns45_2 := NB140_139.out
              have hms45_0 := NB139_138.out
              have hms45_2 := NB139_140.out
              refine skip_ (w1 := ?_) (by rfl) rfl ?_ ?_
              rotate_left
              · go_simp
                rfl
              refine hK.out _ _ ⟨((cell_far (p := ⟨gb139, _, none⟩) NB138_139.out _).trans (((cell_far (p := ⟨gb139, _, none⟩) NB138_139.out _).trans (hHeld.1)))), ((cell_far (p := ⟨gb139, _, none⟩) NB138_139.out _).trans (((cell_far (p := ⟨gb139, _, none⟩) NB138_139.out _).trans (hHeld.2))))⟩ (fun hHeld => ?_)
              clear hK K
              refine one_ (i := 15) (N := none) #[true, true, true, true, true, true, true, true, true, true, true, true, true, true, true, true] rfl rfl (one_of HT_.out (by kernel_rfl)) (by decide) (fun K hK => ?_)
              have hs46 : w43.cell? ⟨gb140, 0, none⟩ = some (.int .u64 0) := (blk_cell BK140.out 0).trans rfl
              have hfs46 := blk_frozen BK140.out 0
              have hns46_0 := NB138_140.out
              have hns46_1 := NB139_140.out
              have hms46_0 := NB140_138.out
              have hms46_1 := NB140_139.out
              have hs47 : w43.cell? ⟨gb140, 1, none⟩ = some (.int .u64 0) := (blk_cell BK140.out 1).trans rfl
              have hfs47 := blk_frozen BK140.out 1
              have hns47_0 := NB138_140.out
              have hns47_1 := NB139_140.out
              have hms47_0 := NB140_138.out
              have hms47_1 := NB140_139.out
              refine skip_ (w1 := ?_) (by rfl) rfl ?_ ?_
              rotate_left
              · go_simp
                rfl
              refine hK.out _ _ ⟨((cell_far (p := ⟨gb140, _, none⟩) NB138_140.out _).trans (((cell_far (p := ⟨gb140, _, none⟩) NB138_140.out _).trans (hHeld.1)))), ((cell_far (p := ⟨gb140, _, none⟩) NB138_140.out _).trans (((cell_far (p := ⟨gb140, _, none⟩) NB138_140.out _).trans (hHeld.2))))⟩ (fun hHeld => ?_)
              clear hK K
              refine done_ (done_of HT_.out (by kernel_rfl)) ?_
              have hnb48 := NB139_138.out
              have hnc48 := NB138_139.out
              have hnb49 := NB139_140.out
              have hnc49 := NB140_139.out
              have hcz50_0 : w43.cell? ⟨gb139, 0, none⟩ = some (.int .u64 0) := (blk_cell BK139.out 0).trans rfl
              have hcz50_1 : w43.cell? ⟨gb139, 1, none⟩ = some (.int .u64 0) := (blk_cell BK139.out 1).trans rfl
              have hfz50_0 := blk_frozen BK139.out 0
              have hfz50_1 := blk_frozen BK139.out 1
              try go_wp2_with (first | ((with_reducible refine gate_callee (f := 4) rfl ?_); refine goesL_ (some 28) rfl rfl Try.func4 (by kernel_rfl) rfl #[.agg #[.int .u64 a0_0, .int .u64 (Go.bits .andNot .u64 a0_1 1)]] rfl (by (try simp only [List.map_toArray, List.map_cons, List.map_nil]); first | done | rfl | (simp only [List.length_drop, List.length_take]; rfl)) ?_; (with_reducible refine (impl_Coverage.calls a0_0 (Go.bits .andNot .u64 a0_1 1) t141 t142 _ A5.out).mono ?_); rintro e w51 ⟨rfl, hb⟩; refine ⟨_, rfl, ?_⟩; have n0_ := Aside0.mk (blk_below (g := gb138) (o := .cells #[.int .u64 a0_0, .int .u64 a0_1] 25 (0, 0)) (by (with_reducible repeat (first | refine blk_drewN ?_ _ | refine blk_drew ?_ | refine blk_alloc ?_ _)); refine blk_far ?_ NB138_140.out _; (with_reducible repeat (first | refine blk_drewN ?_ _ | refine blk_drew ?_ | refine blk_alloc ?_ _)); refine blk_far ?_ NB138_140.out _; (with_reducible repeat (first | refine blk_drewN ?_ _ | refine blk_drew ?_ | refine blk_alloc ?_ _)); refine blk_far ?_ NB138_139.out _; (with_reducible repeat (first | refine blk_drewN ?_ _ | refine blk_drew ?_ | refine blk_alloc ?_ _)); refine blk_far ?_ NB138_139.out _; (with_reducible repeat (first | refine blk_drewN ?_ _ | refine blk_drew ?_ | refine blk_alloc ?_ _)); exact BK138.out) hb); have n1_ := Aside0.mk (blk_below (g := gb139) (o := .cells #[.int .u64 a0_0, .int .u64 (Go.bits .andNot .u64 a0_1 1)] 25 (0, 0)) (by (with_reducible repeat (first | refine blk_drewN ?_ _ | refine blk_drew ?_ | refine blk_alloc ?_ _)); refine blk_far ?_ NB139_140.out _; (with_reducible repeat (first | refine blk_drewN ?_ _ | refine blk_drew ?_ | refine blk_alloc ?_ _)); refine blk_far ?_ NB139_140.out _; (with_reducible repeat (first | refine blk_drewN ?_ _ | refine blk_drew ?_ | refine blk_alloc ?_ _)); refine blk_put (cs := #[.int .u64 a0_0, .int .u64 0]) ?_ 1 _ rfl; (with_reducible repeat (first | refine blk_drewN ?_ _ | refine blk_drew ?_ | refine blk_alloc ?_ _)); refine blk_put (cs := #[.int .u64 0, .int .u64 0]) ?_ 0 _ rfl; (with_reducible repeat (first | refine blk_drewN ?_ _ | refine blk_drew ?_ | refine blk_alloc ?_ _)); exact BK139.out) hb); have n2_ := Aside0.mk (blk_below (g := gb140) (o := .cells #[.int .u64 a0_0, .int .u64 (Go.bits .or .u64 a0_1 1)] 25 (0, 0)) (by (with_reducible repeat (first | refine blk_drewN ?_ _ | refine blk_drew ?_ | refine blk_alloc ?_ _)); refine blk_put (cs := #[.int .u64 a0_0, .int .u64 0]) ?_ 1 _ rfl; (with_reducible repeat (first | refine blk_drewN ?_ _ | refine blk_drew ?_ | refine blk_alloc ?_ _)); refine blk_put (cs := #[.int .u64 0, .int .u64 0]) ?_ 0 _ rfl; (with_reducible repeat (first | refine blk_drewN ?_ _ | refine blk_drew ?_ | refine blk_alloc ?_ _)); refine blk_far ?_ NB140_139.out _; (with_reducible repeat (first | refine blk_drewN ?_ _ | refine blk_drew ?_ | refine blk_alloc ?_ _)); refine blk_far ?_ NB140_139.out _; (with_reducible repeat (first | refine blk_drewN ?_ _ | refine blk_drew ?_ | refine blk_alloc ?_ _)); exact BK140.out) hb); have n3_ := Aside0.mk (below_step (by repeat (first | (with_reducible first | exact HB.out | apply below_alloc | apply pw_below_drewN | apply below_drew1 | refine below_set ?_ GE138.out | refine below_set ?_ GE139.out | refine below_set ?_ GE140.out) | exact HB.out)) hb); clear BK138; clear BK139; clear BK140; clear HB; have BK138 := n0_; have BK139 := n1_; have BK140 := n2_; have HB := n3_; clear n0_ n1_ n2_ n3_; (try clear hb); (try clear hb2); (try clear hk); (try clear hi); have hnb52 := NB140_138.out; have hnc52 := NB138_140.out; have hcz53_0 : w51.cell? ⟨gb140, 0, none⟩ = some (.int .u64 a0_0) := (blk_cell BK140.out 0).trans rfl; have hcz53_1 : w51.cell? ⟨gb140, 1, none⟩ = some (.int .u64 (Go.bits .or .u64 a0_1 1)) := (blk_cell BK140.out 1).trans rfl; have hfz53_0 := blk_frozen BK140.out 0; have hfz53_1 := blk_frozen BK140.out 1) | ((with_reducible refine gate_callee (f := 4) rfl ?_); refine goesL_ (some 33) rfl rfl Try.func4 (by kernel_rfl) rfl #[.agg #[.int .u64 a0_0, .int .u64 (Go.bits .or .u64 a0_1 1)]] rfl (by (try simp only [List.map_toArray, List.map_cons, List.map_nil]); first | done | rfl | (simp only [List.length_drop, List.length_take]; rfl)) ?_; (with_reducible refine (impl_Coverage.calls a0_0 (Go.bits .or .u64 a0_1 1) t143 t144 _ A6.out).mono ?_); rintro e w54 ⟨rfl, hb⟩; refine ⟨_, rfl, ?_⟩; have n0_ := Aside0.mk (blk_below (g := gb138) (o := .cells #[.int .u64 a0_0, .int .u64 a0_1] 25 (0, 0)) (by (with_reducible repeat (first | refine blk_drewN ?_ _ | refine blk_drew ?_ | refine blk_alloc ?_ _)); exact BK138.out) hb); have n1_ := Aside0.mk (blk_below (g := gb139) (o := .cells #[.int .u64 a0_0, .int .u64 (Go.bits .andNot .u64 a0_1 1)] 25 (0, 0)) (by (with_reducible repeat (first | refine blk_drewN ?_ _ | refine blk_drew ?_ | refine blk_alloc ?_ _)); exact BK139.out) hb); have n2_ := Aside0.mk (blk_below (g := gb140) (o := .cells #[.int .u64 a0_0, .int .u64 (Go.bits .or .u64 a0_1 1)] 25 (0, 0)) (by (with_reducible repeat (first | refine blk_drewN ?_ _ | refine blk_drew ?_ | refine blk_alloc ?_ _)); exact BK140.out) hb); have n3_ := Aside0.mk (below_step (by repeat (first | (with_reducible first | exact HB.out | apply below_alloc | apply pw_below_drewN | apply below_drew1 | refine below_set ?_ GE138.out | refine below_set ?_ GE139.out | refine below_set ?_ GE140.out) | exact HB.out)) hb); clear BK138; clear BK139; clear BK140; clear HB; have BK138 := n0_; have BK139 := n1_; have BK140 := n2_; have HB := n3_; clear n0_ n1_ n2_ n3_; (try clear hb); (try clear hb2); (try clear hk); (try clear hi); have hcz55_0 : w54.cell? ⟨gb138, 0, none⟩ = some (.int .u64 a0_0) := (blk_cell BK138.out 0).trans rfl; have hcz55_1 : w54.cell? ⟨gb138, 1, none⟩ = some (.int .u64 a0_1) := (blk_cell BK138.out 1).trans rfl; have hfz55_0 := blk_frozen BK138.out 0; have hfz55_1 := blk_frozen BK138.out 1) | ((with_reducible refine gate_callee (f := 5) rfl ?_); refine goesL_ (some 38) rfl rfl Try.func5 (by kernel_rfl) rfl #[.agg #[.int .u64 a0_0, .int .u64 a0_1]] rfl (by (try simp only [List.map_toArray, List.map_cons, List.map_nil]); first | done | rfl | (simp only [List.length_drop, List.length_take]; rfl)) ?_; (with_reducible refine (impl_Parent.calls a0_0 a0_1 t145 t146 _ A7.out).mono ?_); rintro e w56 ⟨rfl, hb⟩; refine ⟨_, rfl, ?_⟩; have n0_ := Aside0.mk (blk_below (g := gb138) (o := .cells #[.int .u64 a0_0, .int .u64 a0_1] 25 (0, 0)) (by (with_reducible repeat (first | refine blk_drewN ?_ _ | refine blk_drew ?_ | refine blk_alloc ?_ _)); exact BK138.out) hb); have n1_ := Aside0.mk (blk_below (g := gb139) (o := .cells #[.int .u64 a0_0, .int .u64 (Go.bits .andNot .u64 a0_1 1)] 25 (0, 0)) (by (with_reducible repeat (first | refine blk_drewN ?_ _ | refine blk_drew ?_ | refine blk_alloc ?_ _)); exact BK139.out) hb); have n2_ := Aside0.mk (blk_below (g := gb140) (o := .cells #[.int .u64 a0_0, .int .u64 (Go.bits .or .u64 a0_1 1)] 25 (0, 0)) (by (with_reducible repeat (first | refine blk_drewN ?_ _ | refine blk_drew ?_ | refine blk_alloc ?_ _)); exact BK140.out) hb); have n3_ := Aside0.mk (below_step (by repeat (first | (with_reducible first | exact HB.out | apply below_alloc | apply pw_below_drewN | apply below_drew1 | refine below_set ?_ GE138.out | refine below_set ?_ GE139.out | refine below_set ?_ GE140.out) | exact HB.out)) hb); clear BK138; clear BK139; clear BK140; clear HB; have BK138 := n0_; have BK139 := n1_; have BK140 := n2_; have HB := n3_; clear n0_ n1_ n2_ n3_; (try clear hb); (try clear hb2); (try clear hk); (try clear hi)) | ((with_reducible refine gate_callee (f := 4) rfl ?_); refine goesL_ (some 39) rfl rfl Try.func4 (by kernel_rfl) rfl #[.agg #[.int .u64 t145, .int .u64 t146]] rfl (by (try simp only [List.map_toArray, List.map_cons, List.map_nil]); first | done | rfl | (simp only [List.length_drop, List.length_take]; rfl)) ?_; (with_reducible refine (impl_Coverage.calls t145 t146 t147 t148 _ A8.out).mono ?_); rintro e w57 ⟨rfl, hb⟩; refine ⟨_, rfl, ?_⟩; have n0_ := Aside0.mk (blk_below (g := gb138) (o := .cells #[.int .u64 a0_0, .int .u64 a0_1] 25 (0, 0)) (by (with_reducible repeat (first | refine blk_drewN ?_ _ | refine blk_drew ?_ | refine blk_alloc ?_ _)); exact BK138.out) hb); have n1_ := Aside0.mk (blk_below (g := gb139) (o := .cells #[.int .u64 a0_0, .int .u64 (Go.bits .andNot .u64 a0_1 1)] 25 (0, 0)) (by (with_reducible repeat (first | refine blk_drewN ?_ _ | refine blk_drew ?_ | refine blk_alloc ?_ _)); exact BK139.out) hb); have n2_ := Aside0.mk (blk_below (g := gb140) (o := .cells #[.int .u64 a0_0, .int .u64 (Go.bits .or .u64 a0_1 1)] 25 (0, 0)) (by (with_reducible repeat (first | refine blk_drewN ?_ _ | refine blk_drew ?_ | refine blk_alloc ?_ _)); exact BK140.out) hb); have n3_ := Aside0.mk (below_step (by repeat (first | (with_reducible first | exact HB.out | apply below_alloc | apply pw_below_drewN | apply below_drew1 | refine below_set ?_ GE138.out | refine below_set ?_ GE139.out | refine below_set ?_ GE140.out) | exact HB.out)) hb); clear BK138; clear BK139; clear BK140; clear HB; have BK138 := n0_; have BK139 := n1_; have BK140 := n2_; have HB := n3_; clear n0_ n1_ n2_ n3_; (try clear hb); (try clear hb2); (try clear hk); (try clear hi)))
              have n0_ := Aside0.mk (blk_drew BK138.out)
              have n1_ := Aside0.mk (blk_drew BK139.out)
              have n2_ := Aside0.mk (blk_drew BK140.out)
              have n3_ := Aside0.mk (below_drew1 HB.out)
              clear BK138
              clear BK139
              clear BK140
              clear HB
              have BK138 := n0_
              have BK139 := n1_
              have BK140 := n2_
              have HB := n3_
              clear n0_ n1_ n2_ n3_
              refine start_ (n := 29) (S := fun w' => w'.cell? ⟨gb138, 0, none⟩ = some (.int .u64 a0_0) ∧ w'.cell? ⟨gb138, 1, none⟩ = some (.int .u64 a0_1)) (ds := []) #[false, false, false, false, false, false, false, false, false, false, false, false, false, false, false, false, false, false, false, false, false, false, false, false, false, false, false, false, false] (by kernel_rfl) rfl rfl ⟨(blk_cell BK138.out 0).trans rfl, (blk_cell BK138.out 1).trans rfl⟩ (fun hHeld => ?_); refine with_tabW lawFC.tab7 lawFC.bits7 (fun HT_ HW_ => ?_)
              generalize w57.drew = w58 at BK138 BK139 BK140 HB hHeld ⊢
              refine pure_ (i := 0) (N := some 42) (v := ?_) (a' := ?_) #[true, false, false, false, false, false, false, false, false, false, false, false, false, false, false, false, false, false, false, false, false, false, false, false, false, false, false, false, false] rfl rfl (any_of HT_.out (by kernel_rfl)) (fun _ _ _ h => h) (Or.inl ⟨by rfl, ?_⟩) ?_ ?_
              rotate_left
              · intro w'
                go_simp
                with_reducible rfl
              rotate_left
              · simp only [Act.put, List.setIfInBounds_toArray, List.set_cons_zero, List.set_cons_succ]
                rfl
              refine pure_ (i := 1) (N := some 43) (v := ?_) (a' := ?_) #[true, true, false, false, false, false, false, false, false, false, false, false, false, false, false, false, false, false, false, false, false, false, false, false, false, false, false, false, false] rfl rfl (any_of HT_.out (by kernel_rfl)) (fun _ _ _ h => h) (Or.inl ⟨by rfl, ?_⟩) ?_ ?_
              rotate_left
              · intro w'
                go_simp
                with_reducible rfl
              rotate_left
              · simp only [Act.put, List.setIfInBounds_toArray, List.set_cons_zero, List.set_cons_succ]
                rfl
              refine pure_ (i := 2) (N := some 44) (v := ?_) (a' := ?_) #[true, true, true, false, false, false, false, false, false, false, false, false, false, false, false, false, false, false, false, false, false, false, false, false, false, false, false, false, false] rfl rfl (any_of HT_.out (by kernel_rfl)) (fun _ _ _ h => h) (Or.inl ⟨by rfl, ?_⟩) ?_ ?_
              rotate_left
              · intro w'
                go_simp
                with_reducible rfl
              rotate_left
              · simp only [Act.put, List.setIfInBounds_toArray, List.set_cons_zero, List.set_cons_succ]
                rfl
              refine pure_ (i := 3) (N := some 45) (v := ?_) (a' := ?_) #[true, true, true, true, false, false, false, false, false, false, false, false, false, false, false, false, false, false, false, false, false, false, false, false, false, false, false, false, false] rfl rfl (any_of HT_.out (by kernel_rfl)) (fun _ _ _ h => h) (Or.inl ⟨by rfl, ?_⟩) ?_ ?_
              rotate_left
              · intro w'
                go_simp
                with_reducible rfl
              rotate_left
              · simp only [Act.put, List.setIfInBounds_toArray, List.set_cons_zero, List.set_cons_succ]
                rfl
              refine pure_ (i := 4) (N := some 46) (v := ?_) (a' := ?_) #[true, true, true, true, true, false, false, false, false, false, false, false, false, false, false, false, false, false, false, false, false, false, false, false, false, false, false, false, false] rfl rfl (any_of HT_.out (by kernel_rfl)) (fun _ _ _ h => h) (Or.inl ⟨by rfl, ?_⟩) ?_ ?_
              rotate_left
              · intro w'
                go_simp
                with_reducible rfl
              rotate_left
              · simp only [Act.put, List.setIfInBounds_toArray, List.set_cons_zero, List.set_cons_succ]
                rfl
              refine pure_ (i := 5) (N := some 47) (v := ?_) (a' := ?_) #[true, true, true, true, true, true, false, false, false, false, false, false, false, false, false, false, false, false, false, false, false, false, false, false, false, false, false, false, false] rfl rfl (any_of HT_.out (by kernel_rfl)) (fun _ _ _ h => h) (Or.inl ⟨by rfl, ?_⟩) ?_ ?_
              rotate_left
              · intro w'
                go_simp
                with_reducible rfl
              rotate_left
              · simp only [Act.put, List.setIfInBounds_toArray, List.set_cons_zero, List.set_cons_succ]
                rfl
              refine pure_ (i := 6) (N := some 48) (v := ?_) (a' := ?_) #[true, true, true, true, true, true, true, false, false, false, false, false, false, false, false, false, false, false, false, false, false, false, false, false, false, false, false, false, false] rfl rfl (any_of HT_.out (by kernel_rfl)) (fun _ _ _ h => h) (Or.inl ⟨by rfl, ?_⟩) ?_ ?_
              rotate_left
              · intro w'
                go_simp
                with_reducible rfl
              rotate_left
              · simp only [Act.put, List.setIfInBounds_toArray, List.set_cons_zero, List.set_cons_succ]
                rfl
              refine pure_ (i := 7) (N := some 49) (v := ?_) (a' := ?_) #[true, true, true, true, true, true, true, true, false, false, false, false, false, false, false, false, false, false, false, false, false, false, false, false, false, false, false, false, false] rfl rfl (any_of HT_.out (by kernel_rfl)) (fun _ _ _ h => h) (Or.inl ⟨by rfl, ?_⟩) ?_ ?_
              rotate_left
              · intro w'
                go_simp
                with_reducible rfl
              rotate_left
              · simp only [Act.put, List.setIfInBounds_toArray, List.set_cons_zero, List.set_cons_succ]
                rfl
              refine pure_ (i := 8) (N := some 50) (v := ?_) (a' := ?_) #[true, true, true, true, true, true, true, true, true, false, false, false, false, false, false, false, false, false, false, false, false, false, false, false, false, false, false, false, false] rfl rfl (any_of HT_.out (by kernel_rfl)) (fun _ _ _ h => h) (Or.inl ⟨by rfl, ?_⟩) ?_ ?_
              rotate_left
              · intro w'
                go_simp
                with_reducible rfl
              rotate_left
              · simp only [Act.put, List.setIfInBounds_toArray, List.set_cons_zero, List.set_cons_succ]
                rfl
              refine pure_ (i := 9) (N := some 51) (v := ?_) (a' := ?_) #[true, true, true, true, true, true, true, true, true, true, false, false, false, false, false, false, false, false, false, false, false, false, false, false, false, false, false, false, false] rfl rfl (any_of HT_.out (by kernel_rfl)) (fun _ _ _ h => h) (Or.inl ⟨by rfl, ?_⟩) ?_ ?_
              rotate_left
              · intro w'
                go_simp
                with_reducible rfl
              rotate_left
              · simp only [Act.put, List.setIfInBounds_toArray, List.set_cons_zero, List.set_cons_succ]
                rfl
              refine pure_ (i := 10) (N := some 52) (v := ?_) (a' := ?_) #[true, true, true, true, true, true, true, true, true, true, true, false, false, false, false, false, false, false, false, false, false, false, false, false, false, false, false, false, false] rfl rfl (any_of HT_.out (by kernel_rfl)) (fun _ _ _ h => h) (Or.inl ⟨by rfl, ?_⟩) ?_ ?_
              rotate_left
              · intro w'
                go_simp
                with_reducible rfl
              rotate_left
              · simp only [Act.put, List.setIfInBounds_toArray, List.set_cons_zero, List.set_cons_succ]
                rfl
              refine pure_ (i := 11) (N := some 53) (v := ?_) (a' := ?_) #[true, true, true, true, true, true, true, true, true, true, true, true, false, false, false, false, false, false, false, false, false, false, false, false, false, false, false, false, false] rfl rfl (any_of HT_.out (by kernel_rfl)) (fun _ _ _ h => h) (Or.inl ⟨by rfl, ?_⟩) ?_ ?_
              rotate_left
              · intro w'
                go_simp
                with_reducible rfl
              rotate_left
              · simp only [Act.put, List.setIfInBounds_toArray, List.set_cons_zero, List.set_cons_succ]
                rfl
              refine pure_ (i := 12) (N := some 54) (v := ?_) (a' := ?_) #[true, true, true, true, true, true, true, true, true, true, true, true, true, false, false, false, false, false, false, false, false, false, false, false, false, false, false, false, false] rfl rfl (any_of HT_.out (by kernel_rfl)) (fun _ _ _ h => h) (Or.inl ⟨by rfl, ?_⟩) ?_ ?_
              rotate_left
              · intro w'
                go_simp
                with_reducible rfl
              rotate_left
              · simp only [Act.put, List.setIfInBounds_toArray, List.set_cons_zero, List.set_cons_succ]
                rfl
              refine pure_ (i := 13) (N := some 55) (v := ?_) (a' := ?_) #[true, true, true, true, true, true, true, true, true, true, true, true, true, true, false, false, false, false, false, false, false, false, false, false, false, false, false, false, false] rfl rfl (any_of HT_.out (by kernel_rfl)) (fun _ _ _ h => h) (Or.inl ⟨by rfl, ?_⟩) ?_ ?_
              rotate_left
              · intro w'
                go_simp
                with_reducible rfl
              rotate_left
              · simp only [Act.put, List.setIfInBounds_toArray, List.set_cons_zero, List.set_cons_succ]
                rfl
              refine pure_ (i := 14) (N := some 56) (v := ?_) (a' := ?_) #[true, true, true, true, true, true, true, true, true, true, true, true, true, true, true, false, false, false, false, false, false, false, false, false, false, false, false, false, false] rfl rfl (any_of HT_.out (by kernel_rfl)) (fun _ _ _ h => h) (Or.inl ⟨by rfl, ?_⟩) ?_ ?_
              rotate_left
              · intro w'
                go_simp
                with_reducible rfl
              rotate_left
              · simp only [Act.put, List.setIfInBounds_toArray, List.set_cons_zero, List.set_cons_succ]
                rfl
              refine pure_ (i := 15) (N := some 57) (v := ?_) (a' := ?_) #[true, true, true, true, true, true, true, true, true, true, true, true, true, true, true, true, false, false, false, false, false, false, false, false, false, false, false, false, false] rfl rfl (any_of HT_.out (by kernel_rfl)) (fun _ _ _ h => h) (Or.inl ⟨by rfl, ?_⟩) ?_ ?_
              rotate_left
              · intro w'
                go_simp
                with_reducible rfl
              rotate_left
              · simp only [Act.put, List.setIfInBounds_toArray, List.set_cons_zero, List.set_cons_succ]
                rfl
              refine pure_ (i := 16) (N := some 58) (v := ?_) (a' := ?_) #[true, true, true, true, true, true, true, true, true, true, true, true, true, true, true, true, true, false, false, false, false, false, false, false, false, false, false, false, false] rfl rfl (any_of HT_.out (by kernel_rfl)) (fun _ _ _ h => h) (Or.inl ⟨by rfl, ?_⟩) ?_ ?_
              rotate_left
              · intro w'
                go_simp
                with_reducible rfl
              rotate_left
              · simp only [Act.put, List.setIfInBounds_toArray, List.set_cons_zero, List.set_cons_succ]
                rfl
              refine pure_ (i := 17) (N := some 59) (v := ?_) (a' := ?_) #[true, true, true, true, true, true, true, true, true, true, true, true, true, true, true, true, true, true, false, false, false, false, false, false, false, false, false, false, false] rfl rfl (any_of HT_.out (by kernel_rfl)) (fun _ _ _ h => h) (Or.inl ⟨by rfl, ?_⟩) ?_ ?_
              rotate_left
              · intro w'
                go_simp
                with_reducible rfl
              rotate_left
              · simp only [Act.put, List.setIfInBounds_toArray, List.set_cons_zero, List.set_cons_succ]
                rfl
              refine take_ (i := 18) (N := some 60) (v := ?_) (a' := ?_) #[true, true, true, true, true, true, true, true, true, true, true, true, true, true, true, true, true, true, true, false, false, false, false, false, false, false, false, false, false] rfl rfl (take_ofW HT_.out HW_.out (by kernel_rfl)) (fun _ _ _ h => h) (Or.inl ⟨by rfl, ?_⟩) hHeld ?_ ?_
              rotate_left
              · rintro w' ⟨s0, s1⟩
                go_simp
                with_reducible rfl
              rotate_left
              · simp only [Act.put, List.setIfInBounds_toArray, List.set_cons_zero, List.set_cons_succ]
                rfl
              refine pure_ (i := 19) (N := some 61) (v := ?_) (a' := ?_) #[true, true, true, true, true, true, true, true, true, true, true, true, true, true, true, true, true, true, true, true, false, false, false, false, false, false, false, false, false] rfl rfl (any_of HT_.out (by kernel_rfl)) (fun _ _ _ h => h) (Or.inl ⟨by rfl, ?_⟩) ?_ ?_
              rotate_left
              · intro w'
                go_simp
                with_reducible rfl
              rotate_left
              · simp only [Act.put, List.setIfInBounds_toArray, List.set_cons_zero, List.set_cons_succ]
                rfl
              refine pure_ (i := 20) (N := some 62) (v := ?_) (a' := ?_) #[true, true, true, true, true, true, true, true, true, true, true, true, true, true, true, true, true, true, true, true, true, false, false, false, false, false, false, false, false] rfl rfl (any_of HT_.out (by kernel_rfl)) (fun _ _ _ h => h) (Or.inl ⟨by rfl, ?_⟩) ?_ ?_
              rotate_left
              · intro w'
                go_simp
                with_reducible rfl
              rotate_left
              · simp only [Act.put, List.setIfInBounds_toArray, List.set_cons_zero, List.set_cons_succ]
                rfl
              refine pure_ (i := 21) (N := some 63) (v := ?_) (a' := ?_) #[true, true, true, true, true, true, true, true, true, true, true, true, true, true, true, true, true, true, true, true, true, true, false, false, false, false, false, false, false] rfl rfl (any_of HT_.out (by kernel_rfl)) (fun _ _ _ h => h) (Or.inl ⟨by rfl, ?_⟩) ?_ ?_
              rotate_left
              · intro w'
                go_simp
                with_reducible rfl
              rotate_left
              · simp only [Act.put, List.setIfInBounds_toArray, List.set_cons_zero, List.set_cons_succ]
                rfl
              refine pure_ (i := 22) (N := some 64) (v := ?_) (a' := ?_) #[true, true, true, true, true, true, true, true, true, true, true, true, true, true, true, true, true, true, true, true, true, true, true, false, false, false, false, false, false] rfl rfl (any_of HT_.out (by kernel_rfl)) (fun _ _ _ h => h) (Or.inl ⟨by rfl, ?_⟩) ?_ ?_
              rotate_left
              · intro w'
                go_simp
                with_reducible rfl
              rotate_left
              · simp only [Act.put, List.setIfInBounds_toArray, List.set_cons_zero, List.set_cons_succ]
                rfl
              refine pure_ (i := 23) (N := some 65) (v := undef) (a' := ?_) #[true, true, true, true, true, true, true, true, true, true, true, true, true, true, true, true, true, true, true, true, true, true, true, true, false, false, false, false, false] rfl rfl (any_of HT_.out (by kernel_rfl)) (fun _ _ _ h => h) (Or.inr ⟨by rfl, rfl⟩) ?_ ?_
              rotate_left
              · simp only [Act.put, List.setIfInBounds_toArray, List.set_cons_zero, List.set_cons_succ]
                rfl
              refine pure_ (i := 24) (N := some 66) (v := undef) (a' := ?_) #[true, true, true, true, true, true, true, true, true, true, true, true, true, true, true, true, true, true, true, true, true, true, true, true, true, false, false, false, false] rfl rfl (any_of HT_.out (by kernel_rfl)) (fun _ _ _ h => h) (Or.inr ⟨by rfl, rfl⟩) ?_ ?_
              rotate_left
              · simp only [Act.put, List.setIfInBounds_toArray, List.set_cons_zero, List.set_cons_succ]
                rfl
              refine pure_ (i := 25) (N := some 67) (v := undef) (a' := ?_) #[true, true, true, true, true, true, true, true, true, true, true, true, true, true, true, true, true, true, true, true, true, true, true, true, true, true, false, false, false] rfl rfl (any_of HT_.out (by kernel_rfl)) (fun _ _ _ h => h) (Or.inr ⟨by rfl, rfl⟩) ?_ ?_
              rotate_left
              · simp only [Act.put, List.setIfInBounds_toArray, List.set_cons_zero, List.set_cons_succ]
                rfl
              refine pure_ (i := 26) (N := some 68) (v := undef) (a' := ?_) #[true, true, true, true, true, true, true, true, true, true, true, true, true, true, true, true, true, true, true, true, true, true, true, true, true, true, true, false, false] rfl rfl (any_of HT_.out (by kernel_rfl)) (fun _ _ _ h => h) (Or.inr ⟨by rfl, rfl⟩) ?_ ?_
              rotate_left
              · simp only [Act.put, List.setIfInBounds_toArray, List.set_cons_zero, List.set_cons_succ]
                rfl
              refine pure_ (i := 27) (N := some 69) (v := ?_) (a' := ?_) #[true, true, true, true, true, true, true, true, true, true, true, true, true, true, true, true, true, true, true, true, true, true, true, true, true, true, true, true, false] rfl rfl (any_of HT_.out (by kernel_rfl)) (fun _ _ _ h => h) (Or.inl ⟨by rfl, ?_⟩) ?_ ?_
              rotate_left
              · intro w'
                go_simp
                with_reducible rfl
              rotate_left
              · simp only [Act.put, List.setIfInBounds_toArray, List.set_cons_zero, List.set_cons_succ]
                rfl
              refine pure_ (i := 28) (N := some 2) (v := ?_) (a' := ?_) #[true, true, true, true, true, true, true, true, true, true, true, true, true, true, true, true, true, true, true, true, true, true, true, true, true, true, true, true, true] rfl rfl (any_of HT_.out (by kernel_rfl)) (fun _ _ _ h => h) (Or.inl ⟨by rfl, ?_⟩) ?_ ?_
              rotate_left
              · intro w'
                go_simp
                with_reducible rfl
              rotate_left
              · simp only [Act.put, List.setIfInBounds_toArray, List.set_cons_zero, List.set_cons_succ]
                rfl
              refine done_ (done_of HT_.out (by kernel_rfl)) ?_
              try go_wp2
              go_ret
              exact ⟨by first | rfl | (simp [errW_none, errW_some] <;> rfl) | (simp only [← hji13]; first | rfl | (simp [errW_none, errW_some] <;> rfl)) | (simp [*, errW_none, errW_some] <;> rfl), by repeat (first | (with_reducible first | exact HB.out | apply below_alloc | apply pw_below_drewN | apply below_drew1 | refine below_set ?_ GE138.out | refine below_set ?_ GE139.out | refine below_set ?_ GE140.out) | exact HB.out)⟩
          · rw [if_neg c12] at H
            exact absurd H (by simp)
        · rw [if_neg c11] at H
          have c11b0 : (t144 == t148) = false := beq_eq_false_iff_ne.mpr c11
          have c11b1 : (t144 != t148) = true := bne_iff_ne.mpr c11
          obtain rfl := Option.some.inj H
          go_enter Try.func3, Try.ntmps3
          try go_wp2_with (first | ((with_reducible refine gate_dst (N := 1) rfl ?_); refine box_event ?hg (N := 1) ?hd (cs := #[.int .u64 a0_0, .int .u64 a0_1]) (t := 25) ?hr ?_; (case hd => rfl); (case hg => rfl); (case hr => first | (go_simp; done) | (go_simp; rfl)); intro gb138 hg w59 hbox hb; have n0_ := Aside0.mk (below_step (by repeat (first | (with_reducible first | exact HB.out | apply below_alloc | apply pw_below_drewN | apply below_drew1) | exact HB.out)) hb); have n1_ := Aside0.mk (hbox); have n2_ := Aside0.mk ((by rw [hg]; exact (below_size (by repeat (first | (with_reducible first | exact HB.out | apply below_alloc | apply pw_below_drewN | apply below_drew1) | exact HB.out))) : w.heap.size ≤ gb138)); have n3_ := Aside0.mk ((by rw [hg]; exact (below_size (by repeat (first | (with_reducible first | exact HB.out | apply below_alloc | apply pw_below_drewN | apply below_drew1) | exact HB.out))) : w.heap.size ≤ gb138)); clear HB; have HB := n0_; have BK138 := n1_; have GW138 := n2_; have GE138 := n3_; clear n0_ n1_ n2_ n3_; clear hb hbox hg; have hcz60_0 : w59.cell? ⟨gb138, 0, none⟩ = some (.int .u64 a0_0) := (blk_cell BK138.out 0).trans rfl; have hcz60_1 : w59.cell? ⟨gb138, 1, none⟩ = some (.int .u64 a0_1) := (blk_cell BK138.out 1).trans rfl; have hfz60_0 := blk_frozen BK138.out 0; have hfz60_1 := blk_frozen BK138.out 1))
          have n0_ := Aside0.mk (blk_drew BK138.out)
          have n1_ := Aside0.mk (below_drew1 HB.out)
          clear BK138
          clear HB
          have BK138 := n0_
          have HB := n1_
          clear n0_ n1_
          refine start_ (n := 16) (S := fun w' => w'.cell? ⟨gb138, 0, none⟩ = some (.int .u64 a0_0) ∧ w'.cell? ⟨gb138, 1, none⟩ = some (.int .u64 a0_1)) (ds := []) #[false, false, false, false, false, false, false, false, false, false, false, false, false, false, false, false] (by kernel_rfl) rfl rfl ⟨(blk_cell BK138.out 0).trans rfl, (blk_cell BK138.out 1).trans rfl⟩ (fun hHeld => ?_); refine with_tabW lawFC.tab3 lawFC.bits3 (fun HT_ HW_ => ?_)
          generalize w59.drew = w61 at BK138 HB hHeld ⊢
          refine pure_ (i := 0) (N := some 14) (v := ?_) (a' := ?_) #[true, false, false, false, false, false, false, false, false, false, false, false, false, false, false, false] rfl rfl (any_of HT_.out (by kernel_rfl)) (fun _ _ _ h => h) (Or.inl ⟨by rfl, ?_⟩) ?_ ?_
          rotate_left
          · intro w'
            go_simp
            with_reducible rfl
          rotate_left
          · simp only [Act.put, List.setIfInBounds_toArray, List.set_cons_zero, List.set_cons_succ]
            rfl
          refine pure_ (i := 2) (N := some 16) (v := ?_) (a' := ?_) #[true, false, true, false, false, false, false, false, false, false, false, false, false, false, false, false] rfl rfl (any_of HT_.out (by kernel_rfl)) (fun _ _ _ h => h) (Or.inl ⟨by rfl, ?_⟩) ?_ ?_
          rotate_left
          · intro w'
            go_simp
            with_reducible rfl
          rotate_left
          · simp only [Act.put, List.setIfInBounds_toArray, List.set_cons_zero, List.set_cons_succ]
            rfl
          refine pure_ (i := 6) (N := some 20) (v := ?_) (a' := ?_) #[true, false, true, false, false, false, true, false, false, false, false, false, false, false, false, false] rfl rfl (any_of HT_.out (by kernel_rfl)) (fun _ _ _ h => h) (Or.inl ⟨by rfl, ?_⟩) ?_ ?_
          rotate_left
          · intro w'
            go_simp
            with_reducible rfl
          rotate_left
          · simp only [Act.put, List.setIfInBounds_toArray, List.set_cons_zero, List.set_cons_succ]
            rfl
          refine pure_ (i := 8) (N := some 22) (v := ?_) (a' := ?_) #[true, false, true, false, false, false, true, false, true, false, false, false, false, false, false, false] rfl rfl (any_of HT_.out (by kernel_rfl)) (fun _ _ _ h => h) (Or.inl ⟨by rfl, ?_⟩) ?_ ?_
          rotate_left
          · intro w'
            go_simp
            with_reducible rfl
          rotate_left
          · simp only [Act.put, List.setIfInBounds_toArray, List.set_cons_zero, List.set_cons_succ]
            rfl
          refine take_ (i := 1) (N := some 15) (v := ?_) (a' := ?_) #[true, true, true, false, false, false, true, false, true, false, false, false, false, false, false, false] rfl rfl (take_ofW HT_.out HW_.out (by kernel_rfl)) (fun _ _ _ h => h) (Or.inl ⟨by rfl, ?_⟩) hHeld ?_ ?_
          rotate_left
          · rintro w' ⟨s0, s1⟩
            go_simp
            with_reducible rfl
          rotate_left
          · simp only [Act.put, List.setIfInBounds_toArray, List.set_cons_zero, List.set_cons_succ]
            rfl
          refine take_ (i := 3) (N := some 17) (v := ?_) (a' := ?_) #[true, true, true, true, false, false, true, false, true, false, false, false, false, false, false, false] rfl rfl (take_ofW HT_.out HW_.out (by kernel_rfl)) (fun _ _ _ h => h) (Or.inl ⟨by rfl, ?_⟩) hHeld ?_ ?_
          rotate_left
          · rintro w' ⟨s0, s1⟩
            go_simp
            with_reducible rfl
          rotate_left
          · simp only [Act.put, List.setIfInBounds_toArray, List.set_cons_zero, List.set_cons_succ]
            rfl
          refine pure_ (i := 4) (N := some 18) (v := ?_) (a' := ?_) #[true, true, true, true, true, false, true, false, true, false, false, false, false, false, false, false] rfl rfl (any_of HT_.out (by kernel_rfl)) (fun _ _ _ h => h) (Or.inl ⟨by rfl, ?_⟩) ?_ ?_
          rotate_left
          · intro w'
            go_simp
            with_reducible rfl
          rotate_left
          · simp only [Act.put, List.setIfInBounds_toArray, List.set_cons_zero, List.set_cons_succ]
            rfl
          refine pure_ (i := 5) (N := some 19) (v := ?_) (a' := ?_) #[true, true, true, true, true, true, true, false, true, false, false, false, false, false, false, false] rfl rfl (any_of HT_.out (by kernel_rfl)) (fun _ _ _ h => h) (Or.inl ⟨by rfl, ?_⟩) ?_ ?_
          rotate_left
          · intro w'
            go_simp
            with_reducible rfl
          rotate_left
          · simp only [Act.put, List.setIfInBounds_toArray, List.set_cons_zero, List.set_cons_succ]
            rfl
          refine take_ (i := 7) (N := some 21) (v := ?_) (a' := ?_) #[true, true, true, true, true, true, true, true, true, false, false, false, false, false, false, false] rfl rfl (take_ofW HT_.out HW_.out (by kernel_rfl)) (fun _ _ _ h => h) (Or.inl ⟨by rfl, ?_⟩) hHeld ?_ ?_
          rotate_left
          · rintro w' ⟨s0, s1⟩
            go_simp
            with_reducible rfl
          rotate_left
          · simp only [Act.put, List.setIfInBounds_toArray, List.set_cons_zero, List.set_cons_succ]
            rfl
          refine take_ (i := 9) (N := some 23) (v := ?_) (a' := ?_) #[true, true, true, true, true, true, true, true, true, true, false, false, false, false, false, false] rfl rfl (take_ofW HT_.out HW_.out (by kernel_rfl)) (fun _ _ _ h => h) (Or.inl ⟨by rfl, ?_⟩) hHeld ?_ ?_
          rotate_left
          · rintro w' ⟨s0, s1⟩
            go_simp
            with_reducible rfl
          rotate_left
          · simp only [Act.put, List.setIfInBounds_toArray, List.set_cons_zero, List.set_cons_succ]
            rfl
          refine pure_ (i := 10) (N := some 24) (v := ?_) (a' := ?_) #[true, true, true, true, true, true, true, true, true, true, true, false, false, false, false, false] rfl rfl (any_of HT_.out (by kernel_rfl)) (fun _ _ _ h => h) (Or.inl ⟨by rfl, ?_⟩) ?_ ?_
          rotate_left
          · intro w'
            go_simp
            with_reducible rfl
          rotate_left
          · simp only [Act.put, List.setIfInBounds_toArray, List.set_cons_zero, List.set_cons_succ]
            rfl
          refine pure_ (i := 11) (N := some 25) (v := ?_) (a' := ?_) #[true, true, true, true, true, true, true, true, true, true, true, true, false, false, false, false] rfl rfl (any_of HT_.out (by kernel_rfl)) (fun _ _ _ h => h) (Or.inl ⟨by rfl, ?_⟩) ?_ ?_
          rotate_left
          · intro w'
            go_simp
            with_reducible rfl
          rotate_left
          · simp only [Act.put, List.setIfInBounds_toArray, List.set_cons_zero, List.set_cons_succ]
            rfl
          refine join_ (σ := Nat × Nat) 2 #[true, true, true, true, true, true, true, true, true, true, true, true, true, true, false, false] (fun s_ => [(3, .pointer (some ⟨s_.1, 0, none⟩)), (4, .pointer (some ⟨s_.2, 0, none⟩))]) (fun s_ w' => (w'.cell? ⟨gb138, 0, none⟩ = some (.int .u64 a0_0) ∧ w'.cell? ⟨gb138, 1, none⟩ = some (.int .u64 a0_1)) ∧ (w'.heap[gb138]? = some (.cells #[.int .u64 a0_0, .int .u64 a0_1] 25 (0, 0))) ∧ (w'.heap[s_.1]? = some (.cells #[.int .u64 0, .int .u64 0] 25 (0, 0))) ∧ (w'.heap[s_.2]? = some (.cells #[.int .u64 0, .int .u64 0] 25 (0, 0))) ∧ (w.heap.size ≤ s_.1) ∧ (w.heap.size ≤ s_.1) ∧ (gb138 ≠ s_.1) ∧ (s_.1 ≠ gb138) ∧ (s_.2 ≠ s_.1) ∧ (s_.1 ≠ s_.2) ∧ (w.heap.size ≤ s_.2) ∧ (w.heap.size ≤ s_.2) ∧ (gb138 ≠ s_.2) ∧ (s_.2 ≠ gb138) ∧ (Below w.heap.size w w')) ?_ ?_
          rotate_left
          · intro hCont
            refine two_ (i := 12) (j := 13) (Ni := some 3) (Nj := some 4) #[true, true, true, true, true, true, true, true, true, true, true, true, true, false, false, false] #[true, true, true, true, true, true, true, true, true, true, true, true, false, true, false, false] rfl rfl rfl rfl (two_of HT_.out (by kernel_rfl)) (by decide) (by decide) (fun K hK => ?_) (fun K hK => ?_)
            · skip
              refine box_step ?hg (N := 3) ?hd (cs := #[.int .u64 0, .int .u64 0]) (t := 25) ?hr ?_; (case hd => rfl); (case hg => rfl); (case hr => first | (go_simp; done) | (go_simp; rfl))
              intro gb139 hg w62 hbox hb
              have n0_ := Aside0.mk (blk_below (g := gb138) (o := .cells #[.int .u64 a0_0, .int .u64 a0_1] 25 (0, 0)) (by (with_reducible repeat (first | refine blk_drewN ?_ _ | refine blk_drew ?_ | refine blk_alloc ?_ _)); exact BK138.out) hb)
              have n1_ := Aside0.mk (below_step (by repeat (first | (with_reducible first | exact HB.out | apply below_alloc | apply pw_below_drewN | apply below_drew1 | refine below_set ?_ GE138.out) | exact HB.out)) hb)
              have n2_ := Aside0.mk (hbox)
              have n3_ := Aside0.mk ((by rw [hg]; exact (below_size (by repeat (first | (with_reducible first | exact HB.out | apply below_alloc | apply pw_below_drewN | apply below_drew1 | refine below_set ?_ GE138.out) | exact HB.out))) : w.heap.size ≤ gb139))
              have n4_ := Aside0.mk ((by rw [hg]; exact (below_size (by repeat (first | (with_reducible first | exact HB.out | apply below_alloc | apply pw_below_drewN | apply below_drew1 | refine below_set ?_ GE138.out) | exact HB.out))) : w.heap.size ≤ gb139))
              have n5_ := Aside0.mk ((by rw [hg]; exact Nat.ne_of_lt (blk_lt (g := gb138) (o := .cells #[.int .u64 a0_0, .int .u64 a0_1] 25 (0, 0)) (by (with_reducible repeat (first | refine blk_drewN ?_ _ | refine blk_drew ?_ | refine blk_alloc ?_ _)); exact BK138.out)) : gb138 ≠ gb139))
              have n6_ := Aside0.mk ((by rw [hg]; exact Nat.ne_of_gt (blk_lt (g := gb138) (o := .cells #[.int .u64 a0_0, .int .u64 a0_1] 25 (0, 0)) (by (with_reducible repeat (first | refine blk_drewN ?_ _ | refine blk_drew ?_ | refine blk_alloc ?_ _)); exact BK138.out)) : gb139 ≠ gb138))
              clear BK138
              clear HB
              have BK138 := n0_
              have HB := n1_
              have BK139 := n2_
              have GW139 := n3_
              have GE139 := n4_
              have NB138_139 := n5_
              have NB139_138 := n6_
              clear n0_ n1_ n2_ n3_ n4_ n5_ n6_
              clear hb hbox hg
              refine hK.out _ _ ⟨(blk_cell BK138.out 0).trans rfl, (blk_cell BK138.out 1).trans rfl⟩ (fun hHeld => ?_)
              clear hK K
              refine norm_ (a' := ?_) ?_ ?_
              rotate_left
              · show Act.put _ (some 3) _ = _
                simp only [Act.put, List.setIfInBounds_toArray, List.set_cons_zero, List.set_cons_succ]
                rfl
              refine one_ (i := 13) (N := some 4) #[true, true, true, true, true, true, true, true, true, true, true, true, true, true, false, false] rfl rfl (one_of HT_.out (by kernel_rfl)) (by decide) (fun K hK => ?_)
              refine box_step ?hg (N := 4) ?hd (cs := #[.int .u64 0, .int .u64 0]) (t := 25) ?hr ?_; (case hd => rfl); (case hg => rfl); (case hr => first | (go_simp; done) | (go_simp; rfl))
              intro gb140 hg w63 hbox hb
              have n0_ := Aside0.mk (blk_below (g := gb138) (o := .cells #[.int .u64 a0_0, .int .u64 a0_1] 25 (0, 0)) (by (with_reducible repeat (first | refine blk_drewN ?_ _ | refine blk_drew ?_ | refine blk_alloc ?_ _)); exact BK138.out) hb)
              have n1_ := Aside0.mk (blk_below (g := gb139) (o := .cells #[.int .u64 0, .int .u64 0] 25 (0, 0)) (by (with_reducible repeat (first | refine blk_drewN ?_ _ | refine blk_drew ?_ | refine blk_alloc ?_ _)); exact BK139.out) hb)
              have n2_ := Aside0.mk (below_step (by repeat (first | (with_reducible first | exact HB.out | apply below_alloc | apply pw_below_drewN | apply below_drew1 | refine below_set ?_ GE138.out | refine below_set ?_ GE139.out) | exact HB.out)) hb)
              have n3_ := Aside0.mk (hbox)
              have n4_ := Aside0.mk ((by rw [hg]; exact (below_size (by repeat (first | (with_reducible first | exact HB.out | apply below_alloc | apply pw_below_drewN | apply below_drew1 | refine below_set ?_ GE138.out | refine below_set ?_ GE139.out) | exact HB.out))) : w.heap.size ≤ gb140))
              have n5_ := Aside0.mk ((by rw [hg]; exact (below_size (by repeat (first | (with_reducible first | exact HB.out | apply below_alloc | apply pw_below_drewN | apply below_drew1 | refine below_set ?_ GE138.out | refine below_set ?_ GE139.out) | exact HB.out))) : w.heap.size ≤ gb140))
              have n6_ := Aside0.mk ((by rw [hg]; exact Nat.ne_of_lt (blk_lt (g := gb138) (o := .cells #[.int .u64 a0_0, .int .u64 a0_1] 25 (0, 0)) (by (with_reducible repeat (first | refine blk_drewN ?_ _ | refine blk_drew ?_ | refine blk_alloc ?_ _)); exact BK138.out)) : gb138 ≠ gb140))
              have n7_ := Aside0.mk ((by rw [hg]; exact Nat.ne_of_gt (blk_lt (g := gb138) (o := .cells #[.int .u64 a0_0, .int .u64 a0_1] 25 (0, 0)) (by (with_reducible repeat (first | refine blk_drewN ?_ _ | refine blk_drew ?_ | refine blk_alloc ?_ _)); exact BK138.out)) : gb140 ≠ gb138))
              have n8_ := Aside0.mk ((by rw [hg]; exact Nat.ne_of_lt (blk_lt (g := gb139) (o := .cells #[.int .u64 0, .int .u64 0] 25 (0, 0)) (by (with_reducible repeat (first | refine blk_drewN ?_ _ | refine blk_drew ?_ | refine blk_alloc ?_ _)); exact BK139.out)) : gb139 ≠ gb140))
              have n9_ := Aside0.mk ((by rw [hg]; exact Nat.ne_of_gt (blk_lt (g := gb139) (o := .cells #[.int .u64 0, .int .u64 0] 25 (0, 0)) (by (with_reducible repeat (first | refine blk_drewN ?_ _ | refine blk_drew ?_ | refine blk_alloc ?_ _)); exact BK139.out)) : gb140 ≠ gb139))
              clear BK138
              clear BK139
              clear HB
              have BK138 := n0_
              have BK139 := n1_
              have HB := n2_
              have BK140 := n3_
              have GW140 := n4_
              have GE140 := n5_
              have NB138_140 := n6_
              have NB140_138 := n7_
              have NB139_140 := n8_
              have NB140_139 := n9_
              clear n0_ n1_ n2_ n3_ n4_ n5_ n6_ n7_ n8_ n9_
              clear hb hbox hg
              refine hK.out _ _ ⟨(blk_cell BK138.out 0).trans rfl, (blk_cell BK138.out 1).trans rfl⟩ (fun hHeld => ?_)
              clear hK K
              refine norm_ (a' := ?_) ?_ ?_
              rotate_left
              · show Act.put _ (some 4) _ = _
                simp only [Act.put, List.setIfInBounds_toArray, List.set_cons_zero, List.set_cons_succ]
                rfl
              exact norm_ (by simp only [putAll, Act.put, List.setIfInBounds_toArray, List.set_cons_zero, List.set_cons_succ]) (hCont (gb139, gb140) _ ⟨hHeld, (by (with_reducible repeat (first | refine blk_drewN ?_ _ | refine blk_drew ?_ | refine blk_alloc ?_ _)); exact BK138.out), (by (with_reducible repeat (first | refine blk_drewN ?_ _ | refine blk_drew ?_ | refine blk_alloc ?_ _)); exact BK139.out), (by (with_reducible repeat (first | refine blk_drewN ?_ _ | refine blk_drew ?_ | refine blk_alloc ?_ _)); exact BK140.out), GW139.out, GE139.out, NB138_139.out, NB139_138.out, NB140_139.out, NB139_140.out, GW140.out, GE140.out, NB138_140.out, NB140_138.out, (by repeat (first | (with_reducible first | exact HB.out | apply below_alloc | apply pw_below_drewN | apply below_drew1 | refine below_set ?_ GE138.out | refine below_set ?_ GE139.out | refine below_set ?_ GE140.out) | exact HB.out))⟩)
            · skip
              refine box_step ?hg (N := 4) ?hd (cs := #[.int .u64 0, .int .u64 0]) (t := 25) ?hr ?_; (case hd => rfl); (case hg => rfl); (case hr => first | (go_simp; done) | (go_simp; rfl))
              intro gb140 hg w62 hbox hb
              have n0_ := Aside0.mk (blk_below (g := gb138) (o := .cells #[.int .u64 a0_0, .int .u64 a0_1] 25 (0, 0)) (by (with_reducible repeat (first | refine blk_drewN ?_ _ | refine blk_drew ?_ | refine blk_alloc ?_ _)); exact BK138.out) hb)
              have n1_ := Aside0.mk (below_step (by repeat (first | (with_reducible first | exact HB.out | apply below_alloc | apply pw_below_drewN | apply below_drew1 | refine below_set ?_ GE138.out) | exact HB.out)) hb)
              have n2_ := Aside0.mk (hbox)
              have n3_ := Aside0.mk ((by rw [hg]; exact (below_size (by repeat (first | (with_reducible first | exact HB.out | apply below_alloc | apply pw_below_drewN | apply below_drew1 | refine below_set ?_ GE138.out) | exact HB.out))) : w.heap.size ≤ gb140))
              have n4_ := Aside0.mk ((by rw [hg]; exact (below_size (by repeat (first | (with_reducible first | exact HB.out | apply below_alloc | apply pw_below_drewN | apply below_drew1 | refine below_set ?_ GE138.out) | exact HB.out))) : w.heap.size ≤ gb140))
              have n5_ := Aside0.mk ((by rw [hg]; exact Nat.ne_of_lt (blk_lt (g := gb138) (o := .cells #[.int .u64 a0_0, .int .u64 a0_1] 25 (0, 0)) (by (with_reducible repeat (first | refine blk_drewN ?_ _ | refine blk_drew ?_ | refine blk_alloc ?_ _)); exact BK138.out)) : gb138 ≠ gb140))
              have n6_ := Aside0.mk ((by rw [hg]; exact Nat.ne_of_gt (blk_lt (g := gb138) (o := .cells #[.int .u64 a0_0, .int .u64 a0_1] 25 (0, 0)) (by (with_reducible repeat (first | refine blk_drewN ?_ _ | refine blk_drew ?_ | refine blk_alloc ?_ _)); exact BK138.out)) : gb140 ≠ gb138))
              clear BK138
              clear HB
              have BK138 := n0_
              have HB := n1_
              have BK140 := n2_
              have GW140 := n3_
              have GE140 := n4_
              have NB138_140 := n5_
              have NB140_138 := n6_
              clear n0_ n1_ n2_ n3_ n4_ n5_ n6_
              clear hb hbox hg
              refine hK.out _ _ ⟨(blk_cell BK138.out 0).trans rfl, (blk_cell BK138.out 1).trans rfl⟩ (fun hHeld => ?_)
              clear hK K
              refine norm_ (a' := ?_) ?_ ?_
              rotate_left
              · show Act.put _ (some 4) _ = _
                simp only [Act.put, List.setIfInBounds_toArray, List.set_cons_zero, List.set_cons_succ]
                rfl
              refine one_ (i := 12) (N := some 3) #[true, true, true, true, true, true, true, true, true, true, true, true, true, true, false, false] rfl rfl (one_of HT_.out (by kernel_rfl)) (by decide) (fun K hK => ?_)
              refine box_step ?hg (N := 3) ?hd (cs := #[.int .u64 0, .int .u64 0]) (t := 25) ?hr ?_; (case hd => rfl); (case hg => rfl); (case hr => first | (go_simp; done) | (go_simp; rfl))
              intro gb139 hg w63 hbox hb
              have n0_ := Aside0.mk (blk_below (g := gb138) (o := .cells #[.int .u64 a0_0, .int .u64 a0_1] 25 (0, 0)) (by (with_reducible repeat (first | refine blk_drewN ?_ _ | refine blk_drew ?_ | refine blk_alloc ?_ _)); exact BK138.out) hb)
              have n1_ := Aside0.mk (blk_below (g := gb140) (o := .cells #[.int .u64 0, .int .u64 0] 25 (0, 0)) (by (with_reducible repeat (first | refine blk_drewN ?_ _ | refine blk_drew ?_ | refine blk_alloc ?_ _)); exact BK140.out) hb)
              have n2_ := Aside0.mk (below_step (by repeat (first | (with_reducible first | exact HB.out | apply below_alloc | apply pw_below_drewN | apply below_drew1 | refine below_set ?_ GE138.out | refine below_set ?_ GE140.out) | exact HB.out)) hb)
              have n3_ := Aside0.mk (hbox)
              have n4_ := Aside0.mk ((by rw [hg]; exact (below_size (by repeat (first | (with_reducible first | exact HB.out | apply below_alloc | apply pw_below_drewN | apply below_drew1 | refine below_set ?_ GE138.out | refine below_set ?_ GE140.out) | exact HB.out))) : w.heap.size ≤ gb139))
              have n5_ := Aside0.mk ((by rw [hg]; exact (below_size (by repeat (first | (with_reducible first | exact HB.out | apply below_alloc | apply pw_below_drewN | apply below_drew1 | refine below_set ?_ GE138.out | refine below_set ?_ GE140.out) | exact HB.out))) : w.heap.size ≤ gb139))
              have n6_ := Aside0.mk ((by rw [hg]; exact Nat.ne_of_lt (blk_lt (g := gb138) (o := .cells #[.int .u64 a0_0, .int .u64 a0_1] 25 (0, 0)) (by (with_reducible repeat (first | refine blk_drewN ?_ _ | refine blk_drew ?_ | refine blk_alloc ?_ _)); exact BK138.out)) : gb138 ≠ gb139))
              have n7_ := Aside0.mk ((by rw [hg]; exact Nat.ne_of_gt (blk_lt (g := gb138) (o := .cells #[.int .u64 a0_0, .int .u64 a0_1] 25 (0, 0)) (by (with_reducible repeat (first | refine blk_drewN ?_ _ | refine blk_drew ?_ | refine blk_alloc ?_ _)); exact BK138.out)) : gb139 ≠ gb138))
              have n8_ := Aside0.mk ((by rw [hg]; exact Nat.ne_of_lt (blk_lt (g := gb140) (o := .cells #[.int .u64 0, .int .u64 0] 25 (0, 0)) (by (with_reducible repeat (first | refine blk_drewN ?_ _ | refine blk_drew ?_ | refine blk_alloc ?_ _)); exact BK140.out)) : gb140 ≠ gb139))
              have n9_ := Aside0.mk ((by rw [hg]; exact Nat.ne_of_gt (blk_lt (g := gb140) (o := .cells #[.int .u64 0, .int .u64 0] 25 (0, 0)) (by (with_reducible repeat (first | refine blk_drewN ?_ _ | refine blk_drew ?_ | refine blk_alloc ?_ _)); exact BK140.out)) : gb139 ≠ gb140))
              clear BK138
              clear BK140
              clear HB
              have BK138 := n0_
              have BK140 := n1_
              have HB := n2_
              have BK139 := n3_
              have GW139 := n4_
              have GE139 := n5_
              have NB138_139 := n6_
              have NB139_138 := n7_
              have NB140_139 := n8_
              have NB139_140 := n9_
              clear n0_ n1_ n2_ n3_ n4_ n5_ n6_ n7_ n8_ n9_
              clear hb hbox hg
              refine hK.out _ _ ⟨(blk_cell BK138.out 0).trans rfl, (blk_cell BK138.out 1).trans rfl⟩ (fun hHeld => ?_)
              clear hK K
              refine norm_ (a' := ?_) ?_ ?_
              rotate_left
              · show Act.put _ (some 3) _ = _
                simp only [Act.put, List.setIfInBounds_toArray, List.set_cons_zero, List.set_cons_succ]
                rfl
              exact norm_ (by simp only [putAll, Act.put, List.setIfInBounds_toArray, List.set_cons_zero, List.set_cons_succ]) (hCont (gb139, gb140) _ ⟨hHeld, (by (with_reducible repeat (first | refine blk_drewN ?_ _ | refine blk_drew ?_ | refine blk_alloc ?_ _)); exact BK138.out), (by (with_reducible repeat (first | refine blk_drewN ?_ _ | refine blk_drew ?_ | refine blk_alloc ?_ _)); exact BK139.out), (by (with_reducible repeat (first | refine blk_drewN ?_ _ | refine blk_drew ?_ | refine blk_alloc ?_ _)); exact BK140.out), GW139.out, GE139.out, NB138_139.out, NB139_138.out, NB140_139.out, NB139_140.out, GW140.out, GE140.out, NB138_140.out, NB140_138.out, (by repeat (first | (with_reducible first | exact HB.out | apply below_alloc | apply pw_below_drewN | apply below_drew1 | refine below_set ?_ GE138.out | refine below_set ?_ GE140.out | refine below_set ?_ GE139.out) | exact HB.out))⟩)
          rintro ⟨gb139, gb140⟩ w64 ⟨hS_, h0_, h1_, h2_, h3_, h4_, h5_, h6_, h7_, h8_, h9_, h10_, h11_, h12_, h13_⟩
          have n0_ : Aside0 (w64.heap[gb138]? = some (.cells #[.int .u64 a0_0, .int .u64 a0_1] 25 (0, 0))) := ⟨h0_⟩
          have n1_ : Aside0 (w64.heap[gb139]? = some (.cells #[.int .u64 0, .int .u64 0] 25 (0, 0))) := ⟨h1_⟩
          have n2_ : Aside0 (w64.heap[gb140]? = some (.cells #[.int .u64 0, .int .u64 0] 25 (0, 0))) := ⟨h2_⟩
          have n3_ : Aside0 (w.heap.size ≤ gb139) := ⟨h3_⟩
          have n4_ : Aside0 (w.heap.size ≤ gb139) := ⟨h4_⟩
          have n5_ : Aside0 (gb138 ≠ gb139) := ⟨h5_⟩
          have n6_ : Aside0 (gb139 ≠ gb138) := ⟨h6_⟩
          have n7_ : Aside0 (gb140 ≠ gb139) := ⟨h7_⟩
          have n8_ : Aside0 (gb139 ≠ gb140) := ⟨h8_⟩
          have n9_ : Aside0 (w.heap.size ≤ gb140) := ⟨h9_⟩
          have n10_ : Aside0 (w.heap.size ≤ gb140) := ⟨h10_⟩
          have n11_ : Aside0 (gb138 ≠ gb140) := ⟨h11_⟩
          have n12_ : Aside0 (gb140 ≠ gb138) := ⟨h12_⟩
          have n13_ : Aside0 (Below w.heap.size w w64) := ⟨h13_⟩
          clear BK138
          clear HB
          clear h0_ h1_ h2_ h3_ h4_ h5_ h6_ h7_ h8_ h9_ h10_ h11_ h12_ h13_
          have BK138 := n0_
          have BK139 := n1_
          have BK140 := n2_
          have GW139 := n3_
          have GE139 := n4_
          have NB138_139 := n5_
          have NB139_138 := n6_
          have NB140_139 := n7_
          have NB139_140 := n8_
          have GW140 := n9_
          have GE140 := n10_
          have NB138_140 := n11_
          have NB140_138 := n12_
          have HB := n13_
          clear n0_ n1_ n2_ n3_ n4_ n5_ n6_ n7_ n8_ n9_ n10_ n11_ n12_ n13_
          have hHeld : w64.cell? ⟨gb138, 0, none⟩ = some (.int .u64 a0_0) ∧ w64.cell? ⟨gb138, 1, none⟩ = some (.int .u64 a0_1) := hS_
          refine norm_ (a' := ?_) ?_ ?_
          rotate_left
          · simp only [putAll, Act.put, List.setIfInBounds_toArray, List.set_cons_zero, List.set_cons_succ]
            rfl
          refine one_ (i := 14) (N := none) #[true, true, true, true, true, true, true, true, true, true, true, true, true, true, true, false] rfl rfl (one_of HT_.out (by kernel_rfl)) (by decide) (fun K hK => ?_)
          have hs65 : w64.cell? ⟨gb139, 0, none⟩ = some (.int .u64 0) := (blk_cell BK139.out 0).trans rfl
          have hfs65 := blk_frozen BK139.out 0
          have hns65_0 := NB138_139.out
          have hns65_2 := NB140_139.out
          have hms65_0 := NB139_138.out
          have hms65_2 := NB139_140.out
          have hs66 : w64.cell? ⟨gb139, 1, none⟩ = some (.int .u64 0) := (blk_cell BK139.out 1).trans rfl
          have hfs66 := blk_frozen BK139.out 1
          have hns66_0 := NB138_139.out
          have hns66_2 := NB140_139.out
          have hms66_0 := NB139_138.out
          have hms66_2 := NB139_140.out
          refine skip_ (w1 := ?_) (by rfl) rfl ?_ ?_
          rotate_left
          · go_simp
            rfl
          refine hK.out _ _ ⟨((cell_far (p := ⟨gb139, _, none⟩) NB138_139.out _).trans (((cell_far (p := ⟨gb139, _, none⟩) NB138_139.out _).trans (hHeld.1)))), ((cell_far (p := ⟨gb139, _, none⟩) NB138_139.out _).trans (((cell_far (p := ⟨gb139, _, none⟩) NB138_139.out _).trans (hHeld.2))))⟩ (fun hHeld => ?_)
          clear hK K
          refine one_ (i := 15) (N := none) #[true, true, true, true, true, true, true, true, true, true, true, true, true, true, true, true] rfl rfl (one_of HT_.out (by kernel_rfl)) (by decide) (fun K hK => ?_)
          have hs67 : w64.cell? ⟨gb140, 0, none⟩ = some (.int .u64 0) := (blk_cell BK140.out 0).trans rfl
          have hfs67 := blk_frozen BK140.out 0
          have hns67_0 := NB138_140.out
          have hns67_1 := NB139_140.out
          have hms67_0 := NB140_138.out
          have hms67_1 := NB140_139.out
          have hs68 : w64.cell? ⟨gb140, 1, none⟩ = some (.int .u64 0) := (blk_cell BK140.out 1).trans rfl
          have hfs68 := blk_frozen BK140.out 1
          have hns68_0 := NB138_140.out
          have hns68_1 := NB139_140.out
          have hms68_0 := NB140_138.out
          have hms68_1 := NB140_139.out
          refine skip_ (w1 := ?_) (by rfl) rfl ?_ ?_
          rotate_left
          · go_simp
            rfl
          refine hK.out _ _ ⟨((cell_far (p := ⟨gb140, _, none⟩) NB138_140.out _).trans (((cell_far (p := ⟨gb140, _, none⟩) NB138_140.out _).trans (hHeld.1)))), ((cell_far (p := ⟨gb140, _, none⟩) NB138_140.out _).trans (((cell_far (p := ⟨gb140, _, none⟩) NB138_140.out _).trans (hHeld.2))))⟩ (fun hHeld => ?_)
          clear hK K
          refine done_ (done_of HT_.out (by kernel_rfl)) ?_
          have hnb69 := NB139_138.out
          have hnc69 := NB138_139.out
          have hnb70 := NB139_140.out
          have hnc70 := NB140_139.out
          have hcz71_0 : w64.cell? ⟨gb139, 0, none⟩ = some (.int .u64 0) := (blk_cell BK139.out 0).trans rfl
          have hcz71_1 : w64.cell? ⟨gb139, 1, none⟩ = some (.int .u64 0) := (blk_cell BK139.out 1).trans rfl
          have hfz71_0 := blk_frozen BK139.out 0
          have hfz71_1 := blk_frozen BK139.out 1
          try go_wp2_with (first | ((with_reducible refine gate_callee (f := 4) rfl ?_); refine goesL_ (some 28) rfl rfl Try.func4 (by kernel_rfl) rfl #[.agg #[.int .u64 a0_0, .int .u64 (Go.bits .andNot .u64 a0_1 1)]] rfl (by (try simp only [List.map_toArray, List.map_cons, List.map_nil]); first | done | rfl | (simp only [List.length_drop, List.length_take]; rfl)) ?_; (with_reducible refine (impl_Coverage.calls a0_0 (Go.bits .andNot .u64 a0_1 1) t141 t142 _ A5.out).mono ?_); rintro e w72 ⟨rfl, hb⟩; refine ⟨_, rfl, ?_⟩; have n0_ := Aside0.mk (blk_below (g := gb138) (o := .cells #[.int .u64 a0_0, .int .u64 a0_1] 25 (0, 0)) (by (with_reducible repeat (first | refine blk_drewN ?_ _ | refine blk_drew ?_ | refine blk_alloc ?_ _)); refine blk_far ?_ NB138_140.out _; (with_reducible repeat (first | refine blk_drewN ?_ _ | refine blk_drew ?_ | refine blk_alloc ?_ _)); refine blk_far ?_ NB138_140.out _; (with_reducible repeat (first | refine blk_drewN ?_ _ | refine blk_drew ?_ | refine blk_alloc ?_ _)); refine blk_far ?_ NB138_139.out _; (with_reducible repeat (first | refine blk_drewN ?_ _ | refine blk_drew ?_ | refine blk_alloc ?_ _)); refine blk_far ?_ NB138_139.out _; (with_reducible repeat (first | refine blk_drewN ?_ _ | refine blk_drew ?_ | refine blk_alloc ?_ _)); exact BK138.out) hb); have n1_ := Aside0.mk (blk_below (g := gb139) (o := .cells #[.int .u64 a0_0, .int .u64 (Go.bits .andNot .u64 a0_1 1)] 25 (0, 0)) (by (with_reducible repeat (first | refine blk_drewN ?_ _ | refine blk_drew ?_ | refine blk_alloc ?_ _)); refine blk_far ?_ NB139_140.out _; (with_reducible repeat (first | refine blk_drewN ?_ _ | refine blk_drew ?_ | refine blk_alloc ?_ _)); refine blk_far ?_ NB139_140.out _; (with_reducible repeat (first | refine blk_drewN ?_ _ | refine blk_drew ?_ | refine blk_alloc ?_ _)); refine blk_put (cs := #[.int .u64 a0_0, .int .u64 0]) ?_ 1 _ rfl; (with_reducible repeat (first | refine blk_drewN ?_ _ | refine blk_drew ?_ | refine blk_alloc ?_ _)); refine blk_put (cs := #[.int .u64 0, .int .u64 0]) ?_ 0 _ rfl; (with_reducible repeat (first | refine blk_drewN ?_ _ | refine blk_drew ?_ | refine blk_alloc ?_ _)); exact BK139.out) hb); have n2_ := Aside0.mk (blk_below (g := gb140) (o := .cells #[.int .u64 a0_0, .int .u64 (Go.bits .or .u64 a0_1 1)] 25 (0, 0)) (by (with_reducible repeat (first | refine blk_drewN ?_ _ | refine blk_drew ?_ | refine blk_alloc ?_ _)); refine blk_put (cs := #[.int .u64 a0_0, .int .u64 0]) ?_ 1 _ rfl; (with_reducible repeat (first | refine blk_drewN ?_ _ | refine blk_drew ?_ | refine blk_alloc ?_ _)); refine blk_put (cs := #[.int .u64 0, .int .u64 0]) ?_ 0 _ rfl; (with_reducible repeat (first | refine blk_drewN ?_ _ | refine blk_drew ?_ | refine blk_alloc ?_ _)); refine blk_far ?_ NB140_139.out _; (with_reducible repeat (first | refine blk_drewN ?_ _ | refine blk_drew ?_ | refine blk_alloc ?_ _)); refine blk_far ?_ NB140_139.out _; (with_reducible repeat (first | refine blk_drewN ?_ _ | refine blk_drew ?_ | refine blk_alloc ?_ _)); exact BK140.out) hb); have n3_ := Aside0.mk (below_step (by repeat (first | (with_reducible first | exact HB.out | apply below_alloc | apply pw_below_drewN | apply below_drew1 | refine below_set ?_ GE138.out | refine below_set ?_ GE139.out | refine below_set ?_ GE140.out) | exact HB.out)) hb); clear BK138; clear BK139; clear BK140; clear HB; have BK138 := n0_; have BK139 := n1_; have BK140 := n2_; have HB := n3_; clear n0_ n1_ n2_ n3_; (try clear hb); (try clear hb2); (try clear hk); (try clear hi); have hnb73 := NB140_138.out; have hnc73 := NB138_140.out; have hcz74_0 : w72.cell? ⟨gb140, 0, none⟩ = some (.int .u64 a0_0) := (blk_cell BK140.out 0).trans rfl; have hcz74_1 : w72.cell? ⟨gb140, 1, none⟩ = some (.int .u64 (Go.bits .or .u64 a0_1 1)) := (blk_cell BK140.out 1).trans rfl; have hfz74_0 := blk_frozen BK140.out 0; have hfz74_1 := blk_frozen BK140.out 1) | ((with_reducible refine gate_callee (f := 4) rfl ?_); refine goesL_ (some 33) rfl rfl Try.func4 (by kernel_rfl) rfl #[.agg #[.int .u64 a0_0, .int .u64 (Go.bits .or .u64 a0_1 1)]] rfl (by (try simp only [List.map_toArray, List.map_cons, List.map_nil]); first | done | rfl | (simp only [List.length_drop, List.length_take]; rfl)) ?_; (with_reducible refine (impl_Coverage.calls a0_0 (Go.bits .or .u64 a0_1 1) t143 t144 _ A6.out).mono ?_); rintro e w75 ⟨rfl, hb⟩; refine ⟨_, rfl, ?_⟩; have n0_ := Aside0.mk (blk_below (g := gb138) (o := .cells #[.int .u64 a0_0, .int .u64 a0_1] 25 (0, 0)) (by (with_reducible repeat (first | refine blk_drewN ?_ _ | refine blk_drew ?_ | refine blk_alloc ?_ _)); exact BK138.out) hb); have n1_ := Aside0.mk (blk_below (g := gb139) (o := .cells #[.int .u64 a0_0, .int .u64 (Go.bits .andNot .u64 a0_1 1)] 25 (0, 0)) (by (with_reducible repeat (first | refine blk_drewN ?_ _ | refine blk_drew ?_ | refine blk_alloc ?_ _)); exact BK139.out) hb); have n2_ := Aside0.mk (blk_below (g := gb140) (o := .cells #[.int .u64 a0_0, .int .u64 (Go.bits .or .u64 a0_1 1)] 25 (0, 0)) (by (with_reducible repeat (first | refine blk_drewN ?_ _ | refine blk_drew ?_ | refine blk_alloc ?_ _)); exact BK140.out) hb); have n3_ := Aside0.mk (below_step (by repeat (first | (with_reducible first | exact HB.out | apply below_alloc | apply pw_below_drewN | apply below_drew1 | refine below_set ?_ GE138.out | refine below_set ?_ GE139.out | refine below_set ?_ GE140.out) | exact HB.out)) hb); clear BK138; clear BK139; clear BK140; clear HB; have BK138 := n0_; have BK139 := n1_; have BK140 := n2_; have HB := n3_; clear n0_ n1_ n2_ n3_; (try clear hb); (try clear hb2); (try clear hk); (try clear hi); have hcz76_0 : w75.cell? ⟨gb138, 0, none⟩ = some (.int .u64 a0_0) := (blk_cell BK138.out 0).trans rfl; have hcz76_1 : w75.cell? ⟨gb138, 1, none⟩ = some (.int .u64 a0_1) := (blk_cell BK138.out 1).trans rfl; have hfz76_0 := blk_frozen BK138.out 0; have hfz76_1 := blk_frozen BK138.out 1) | ((with_reducible refine gate_callee (f := 5) rfl ?_); refine goesL_ (some 38) rfl rfl Try.func5 (by kernel_rfl) rfl #[.agg #[.int .u64 a0_0, .int .u64 a0_1]] rfl (by (try simp only [List.map_toArray, List.map_cons, List.map_nil]); first | done | rfl | (simp only [List.length_drop, List.length_take]; rfl)) ?_; (with_reducible refine (impl_Parent.calls a0_0 a0_1 t145 t146 _ A7.out).mono ?_); rintro e w77 ⟨rfl, hb⟩; refine ⟨_, rfl, ?_⟩; have n0_ := Aside0.mk (blk_below (g := gb138) (o := .cells #[.int .u64 a0_0, .int .u64 a0_1] 25 (0, 0)) (by (with_reducible repeat (first | refine blk_drewN ?_ _ | refine blk_drew ?_ | refine blk_alloc ?_ _)); exact BK138.out) hb); have n1_ := Aside0.mk (blk_below (g := gb139) (o := .cells #[.int .u64 a0_0, .int .u64 (Go.bits .andNot .u64 a0_1 1)] 25 (0, 0)) (by (with_reducible repeat (first | refine blk_drewN ?_ _ | refine blk_drew ?_ | refine blk_alloc ?_ _)); exact BK139.out) hb); have n2_ := Aside0.mk (blk_below (g := gb140) (o := .cells #[.int .u64 a0_0, .int .u64 (Go.bits .or .u64 a0_1 1)] 25 (0, 0)) (by (with_reducible repeat (first | refine blk_drewN ?_ _ | refine blk_drew ?_ | refine blk_alloc ?_ _)); exact BK140.out) hb); have n3_ := Aside0.mk (below_step (by repeat (first | (with_reducible first | exact HB.out | apply below_alloc | apply pw_below_drewN | apply below_drew1 | refine below_set ?_ GE138.out | refine below_set ?_ GE139.out | refine below_set ?_ GE140.out) | exact HB.out)) hb); clear BK138; clear BK139; clear BK140; clear HB; have BK138 := n0_; have BK139 := n1_; have BK140 := n2_; have HB := n3_; clear n0_ n1_ n2_ n3_; (try clear hb); (try clear hb2); (try clear hk); (try clear hi)) | ((with_reducible refine gate_callee (f := 4) rfl ?_); refine goesL_ (some 39) rfl rfl Try.func4 (by kernel_rfl) rfl #[.agg #[.int .u64 t145, .int .u64 t146]] rfl (by (try simp only [List.map_toArray, List.map_cons, List.map_nil]); first | done | rfl | (simp only [List.length_drop, List.length_take]; rfl)) ?_; (with_reducible refine (impl_Coverage.calls t145 t146 t147 t148 _ A8.out).mono ?_); rintro e w78 ⟨rfl, hb⟩; refine ⟨_, rfl, ?_⟩; have n0_ := Aside0.mk (blk_below (g := gb138) (o := .cells #[.int .u64 a0_0, .int .u64 a0_1] 25 (0, 0)) (by (with_reducible repeat (first | refine blk_drewN ?_ _ | refine blk_drew ?_ | refine blk_alloc ?_ _)); exact BK138.out) hb); have n1_ := Aside0.mk (blk_below (g := gb139) (o := .cells #[.int .u64 a0_0, .int .u64 (Go.bits .andNot .u64 a0_1 1)] 25 (0, 0)) (by (with_reducible repeat (first | refine blk_drewN ?_ _ | refine blk_drew ?_ | refine blk_alloc ?_ _)); exact BK139.out) hb); have n2_ := Aside0.mk (blk_below (g := gb140) (o := .cells #[.int .u64 a0_0, .int .u64 (Go.bits .or .u64 a0_1 1)] 25 (0, 0)) (by (with_reducible repeat (first | refine blk_drewN ?_ _ | refine blk_drew ?_ | refine blk_alloc ?_ _)); exact BK140.out) hb); have n3_ := Aside0.mk (below_step (by repeat (first | (with_reducible first | exact HB.out | apply below_alloc | apply pw_below_drewN | apply below_drew1 | refine below_set ?_ GE138.out | refine below_set ?_ GE139.out | refine below_set ?_ GE140.out) | exact HB.out)) hb); clear BK138; clear BK139; clear BK140; clear HB; have BK138 := n0_; have BK139 := n1_; have BK140 := n2_; have HB := n3_; clear n0_ n1_ n2_ n3_; (try clear hb); (try clear hb2); (try clear hk); (try clear hi)))
          have n0_ := Aside0.mk (blk_drew BK138.out)
          have n1_ := Aside0.mk (blk_drew BK139.out)
          have n2_ := Aside0.mk (blk_drew BK140.out)
          have n3_ := Aside0.mk (below_drew1 HB.out)
          clear BK138
          clear BK139
          clear BK140
          clear HB
          have BK138 := n0_
          have BK139 := n1_
          have BK140 := n2_
          have HB := n3_
          clear n0_ n1_ n2_ n3_
          refine start_ (n := 29) (S := fun w' => True) (ds := []) #[false, false, false, false, false, false, false, false, false, false, false, false, false, false, false, false, false, false, false, false, false, false, false, false, false, false, false, false, false] (by kernel_rfl) rfl rfl trivial (fun hHeld => ?_); refine with_tabW lawFC.tab7 lawFC.bits7 (fun HT_ HW_ => ?_)
          generalize w78.drew = w79 at BK138 BK139 BK140 HB hHeld ⊢
          refine pure_ (i := 0) (N := some 42) (v := ?_) (a' := ?_) #[true, false, false, false, false, false, false, false, false, false, false, false, false, false, false, false, false, false, false, false, false, false, false, false, false, false, false, false, false] rfl rfl (any_of HT_.out (by kernel_rfl)) (fun _ _ _ h => h) (Or.inl ⟨by rfl, ?_⟩) ?_ ?_
          rotate_left
          · intro w'
            go_simp
            with_reducible rfl
          rotate_left
          · simp only [Act.put, List.setIfInBounds_toArray, List.set_cons_zero, List.set_cons_succ]
            rfl
          refine pure_ (i := 1) (N := some 43) (v := ?_) (a' := ?_) #[true, true, false, false, false, false, false, false, false, false, false, false, false, false, false, false, false, false, false, false, false, false, false, false, false, false, false, false, false] rfl rfl (any_of HT_.out (by kernel_rfl)) (fun _ _ _ h => h) (Or.inl ⟨by rfl, ?_⟩) ?_ ?_
          rotate_left
          · intro w'
            go_simp
            with_reducible rfl
          rotate_left
          · simp only [Act.put, List.setIfInBounds_toArray, List.set_cons_zero, List.set_cons_succ]
            rfl
          refine pure_ (i := 2) (N := some 44) (v := ?_) (a' := ?_) #[true, true, true, false, false, false, false, false, false, false, false, false, false, false, false, false, false, false, false, false, false, false, false, false, false, false, false, false, false] rfl rfl (any_of HT_.out (by kernel_rfl)) (fun _ _ _ h => h) (Or.inl ⟨by rfl, ?_⟩) ?_ ?_
          rotate_left
          · intro w'
            go_simp
            with_reducible rfl
          rotate_left
          · simp only [Act.put, List.setIfInBounds_toArray, List.set_cons_zero, List.set_cons_succ]
            rfl
          refine pure_ (i := 3) (N := some 45) (v := ?_) (a' := ?_) #[true, true, true, true, false, false, false, false, false, false, false, false, false, false, false, false, false, false, false, false, false, false, false, false, false, false, false, false, false] rfl rfl (any_of HT_.out (by kernel_rfl)) (fun _ _ _ h => h) (Or.inl ⟨by rfl, ?_⟩) ?_ ?_
          rotate_left
          · intro w'
            go_simp
            with_reducible rfl
          rotate_left
          · simp only [Act.put, List.setIfInBounds_toArray, List.set_cons_zero, List.set_cons_succ]
            rfl
          refine pure_ (i := 4) (N := some 46) (v := ?_) (a' := ?_) #[true, true, true, true, true, false, false, false, false, false, false, false, false, false, false, false, false, false, false, false, false, false, false, false, false, false, false, false, false] rfl rfl (any_of HT_.out (by kernel_rfl)) (fun _ _ _ h => h) (Or.inl ⟨by rfl, ?_⟩) ?_ ?_
          rotate_left
          · intro w'
            go_simp
            with_reducible rfl
          rotate_left
          · simp only [Act.put, List.setIfInBounds_toArray, List.set_cons_zero, List.set_cons_succ]
            rfl
          refine pure_ (i := 5) (N := some 47) (v := ?_) (a' := ?_) #[true, true, true, true, true, true, false, false, false, false, false, false, false, false, false, false, false, false, false, false, false, false, false, false, false, false, false, false, false] rfl rfl (any_of HT_.out (by kernel_rfl)) (fun _ _ _ h => h) (Or.inl ⟨by rfl, ?_⟩) ?_ ?_
          rotate_left
          · intro w'
            go_simp
            with_reducible rfl
          rotate_left
          · simp only [Act.put, List.setIfInBounds_toArray, List.set_cons_zero, List.set_cons_succ]
            rfl
          refine pure_ (i := 6) (N := some 48) (v := ?_) (a' := ?_) #[true, true, true, true, true, true, true, false, false, false, false, false, false, false, false, false, false, false, false, false, false, false, false, false, false, false, false, false, false] rfl rfl (any_of HT_.out (by kernel_rfl)) (fun _ _ _ h => h) (Or.inl ⟨by rfl, ?_⟩) ?_ ?_
          rotate_left
          · intro w'
            go_simp
            with_reducible rfl
          rotate_left
          · simp only [Act.put, List.setIfInBounds_toArray, List.set_cons_zero, List.set_cons_succ]
            rfl
          refine pure_ (i := 7) (N := some 49) (v := ?_) (a' := ?_) #[true, true, true, true, true, true, true, true, false, false, false, false, false, false, false, false, false, false, false, false, false, false, false, false, false, false, false, false, false] rfl rfl (any_of HT_.out (by kernel_rfl)) (fun _ _ _ h => h) (Or.inl ⟨by rfl, ?_⟩) ?_ ?_
          rotate_left
          · intro w'
            go_simp
            with_reducible rfl
          rotate_left
          · simp only [Act.put, List.setIfInBounds_toArray, List.set_cons_zero, List.set_cons_succ]
            rfl
          refine pure_ (i := 8) (N := some 50) (v := ?_) (a' := ?_) #[true, true, true, true, true, true, true, true, true, false, false, false, false, false, false, false, false, false, false, false, false, false, false, false, false, false, false, false, false] rfl rfl (any_of HT_.out (by kernel_rfl)) (fun _ _ _ h => h) (Or.inl ⟨by rfl, ?_⟩) ?_ ?_
          rotate_left
          · intro w'
            go_simp
            with_reducible rfl
          rotate_left
          · simp only [Act.put, List.setIfInBounds_toArray, List.set_cons_zero, List.set_cons_succ]
            rfl
          refine pure_ (i := 9) (N := some 51) (v := ?_) (a' := ?_) #[true, true, true, true, true, true, true, true, true, true, false, false, false, false, false, false, false, false, false, false, false, false, false, false, false, false, false, false, false] rfl rfl (any_of HT_.out (by kernel_rfl)) (fun _ _ _ h => h) (Or.inl ⟨by rfl, ?_⟩) ?_ ?_
          rotate_left
          · intro w'
            go_simp
            with_reducible rfl
          rotate_left
          · simp only [Act.put, List.setIfInBounds_toArray, List.set_cons_zero, List.set_cons_succ]
            rfl
          refine pure_ (i := 10) (N := some 52) (v := ?_) (a' := ?_) #[true, true, true, true, true, true, true, true, true, true, true, false, false, false, false, false, false, false, false, false, false, false, false, false, false, false, false, false, false] rfl rfl (any_of HT_.out (by kernel_rfl)) (fun _ _ _ h => h) (Or.inl ⟨by rfl, ?_⟩) ?_ ?_
          rotate_left
          · intro w'
            go_simp
            with_reducible rfl
          rotate_left
          · simp only [Act.put, List.setIfInBounds_toArray, List.set_cons_zero, List.set_cons_succ]
            rfl
          refine pure_ (i := 11) (N := some 53) (v := ?_) (a' := ?_) #[true, true, true, true, true, true, true, true, true, true, true, true, false, false, false, false, false, false, false, false, false, false, false, false, false, false, false, false, false] rfl rfl (any_of HT_.out (by kernel_rfl)) (fun _ _ _ h => h) (Or.inl ⟨by rfl, ?_⟩) ?_ ?_
          rotate_left
          · intro w'
            go_simp
            with_reducible rfl
          rotate_left
          · simp only [Act.put, List.setIfInBounds_toArray, List.set_cons_zero, List.set_cons_succ]
            rfl
          refine pure_ (i := 12) (N := some 54) (v := ?_) (a' := ?_) #[true, true, true, true, true, true, true, true, true, true, true, true, true, false, false, false, false, false, false, false, false, false, false, false, false, false, false, false, false] rfl rfl (any_of HT_.out (by kernel_rfl)) (fun _ _ _ h => h) (Or.inl ⟨by rfl, ?_⟩) ?_ ?_
          rotate_left
          · intro w'
            go_simp
            with_reducible rfl
          rotate_left
          · simp only [Act.put, List.setIfInBounds_toArray, List.set_cons_zero, List.set_cons_succ]
            rfl
          refine pure_ (i := 13) (N := some 55) (v := ?_) (a' := ?_) #[true, true, true, true, true, true, true, true, true, true, true, true, true, true, false, false, false, false, false, false, false, false, false, false, false, false, false, false, false] rfl rfl (any_of HT_.out (by kernel_rfl)) (fun _ _ _ h => h) (Or.inl ⟨by rfl, ?_⟩) ?_ ?_
          rotate_left
          · intro w'
            go_simp
            with_reducible rfl
          rotate_left
          · simp only [Act.put, List.setIfInBounds_toArray, List.set_cons_zero, List.set_cons_succ]
            rfl
          refine pure_ (i := 14) (N := some 56) (v := undef) (a' := ?_) #[true, true, true, true, true, true, true, true, true, true, true, true, true, true, true, false, false, false, false, false, false, false, false, false, false, false, false, false, false] rfl rfl (any_of HT_.out (by kernel_rfl)) (fun _ _ _ h => h) (Or.inr ⟨by rfl, rfl⟩) ?_ ?_
          rotate_left
          · simp only [Act.put, List.setIfInBounds_toArray, List.set_cons_zero, List.set_cons_succ]
            rfl
          refine pure_ (i := 15) (N := some 57) (v := undef) (a' := ?_) #[true, true, true, true, true, true, true, true, true, true, true, true, true, true, true, true, false, false, false, false, false, false, false, false, false, false, false, false, false] rfl rfl (any_of HT_.out (by kernel_rfl)) (fun _ _ _ h => h) (Or.inr ⟨by rfl, rfl⟩) ?_ ?_
          rotate_left
          · simp only [Act.put, List.setIfInBounds_toArray, List.set_cons_zero, List.set_cons_succ]
            rfl
          refine pure_ (i := 16) (N := some 58) (v := undef) (a' := ?_) #[true, true, true, true, true, true, true, true, true, true, true, true, true, true, true, true, true, false, false, false, false, false, false, false, false, false, false, false, false] rfl rfl (any_of HT_.out (by kernel_rfl)) (fun _ _ _ h => h) (Or.inr ⟨by rfl, rfl⟩) ?_ ?_
          rotate_left
          · simp only [Act.put, List.setIfInBounds_toArray, List.set_cons_zero, List.set_cons_succ]
            rfl
          refine pure_ (i := 17) (N := some 59) (v := undef) (a' := ?_) #[true, true, true, true, true, true, true, true, true, true, true, true, true, true, true, true, true, true, false, false, false, false, false, false, false, false, false, false, false] rfl rfl (any_of HT_.out (by kernel_rfl)) (fun _ _ _ h => h) (Or.inr ⟨by rfl, rfl⟩) ?_ ?_
          rotate_left
          · simp only [Act.put, List.setIfInBounds_toArray, List.set_cons_zero, List.set_cons_succ]
            rfl
          refine pure_ (i := 18) (N := some 60) (v := undef) (a' := ?_) #[true, true, true, true, true, true, true, true, true, true, true, true, true, true, true, true, true, true, true, false, false, false, false, false, false, false, false, false, false] rfl rfl (any_of HT_.out (by kernel_rfl)) (fun _ _ _ h => h) (Or.inr ⟨by rfl, rfl⟩) ?_ ?_
          rotate_left
          · simp only [Act.put, List.setIfInBounds_toArray, List.set_cons_zero, List.set_cons_succ]
            rfl
          refine pure_ (i := 19) (N := some 61) (v := undef) (a' := ?_) #[true, true, true, true, true, true, true, true, true, true, true, true, true, true, true, true, true, true, true, true, false, false, false, false, false, false, false, false, false] rfl rfl (any_of HT_.out (by kernel_rfl)) (fun _ _ _ h => h) (Or.inr ⟨by rfl, rfl⟩) ?_ ?_
          rotate_left
          · simp only [Act.put, List.setIfInBounds_toArray, List.set_cons_zero, List.set_cons_succ]
            rfl
          refine pure_ (i := 20) (N := some 62) (v := undef) (a' := ?_) #[true, true, true, true, true, true, true, true, true, true, true, true, true, true, true, true, true, true, true, true, true, false, false, false, false, false, false, false, false] rfl rfl (any_of HT_.out (by kernel_rfl)) (fun _ _ _ h => h) (Or.inr ⟨by rfl, rfl⟩) ?_ ?_
          rotate_left
          · simp only [Act.put, List.setIfInBounds_toArray, List.set_cons_zero, List.set_cons_succ]
            rfl
          refine pure_ (i := 21) (N := some 63) (v := ?_) (a' := ?_) #[true, true, true, true, true, true, true, true, true, true, true, true, true, true, true, true, true, true, true, true, true, true, false, false, false, false, false, false, false] rfl rfl (any_of HT_.out (by kernel_rfl)) (fun _ _ _ h => h) (Or.inl ⟨by rfl, ?_⟩) ?_ ?_
          rotate_left
          · intro w'
            go_simp
            with_reducible rfl
          rotate_left
          · simp only [Act.put, List.setIfInBounds_toArray, List.set_cons_zero, List.set_cons_succ]
            rfl
          refine pure_ (i := 22) (N := some 64) (v := ?_) (a' := ?_) #[true, true, true, true, true, true, true, true, true, true, true, true, true, true, true, true, true, true, true, true, true, true, true, false, false, false, false, false, false] rfl rfl (any_of HT_.out (by kernel_rfl)) (fun _ _ _ h => h) (Or.inl ⟨by rfl, ?_⟩) ?_ ?_
          rotate_left
          · intro w'
            go_simp
            with_reducible rfl
          rotate_left
          · simp only [Act.put, List.setIfInBounds_toArray, List.set_cons_zero, List.set_cons_succ]
            rfl
          refine pure_ (i := 23) (N := some 65) (v := undef) (a' := ?_) #[true, true, true, true, true, true, true, true, true, true, true, true, true, true, true, true, true, true, true, true, true, true, true, true, false, false, false, false, false] rfl rfl (any_of HT_.out (by kernel_rfl)) (fun _ _ _ h => h) (Or.inr ⟨by rfl, rfl⟩) ?_ ?_
          rotate_left
          · simp only [Act.put, List.setIfInBounds_toArray, List.set_cons_zero, List.set_cons_succ]
            rfl
          refine pure_ (i := 24) (N := some 66) (v := undef) (a' := ?_) #[true, true, true, true, true, true, true, true, true, true, true, true, true, true, true, true, true, true, true, true, true, true, true, true, true, false, false, false, false] rfl rfl (any_of HT_.out (by kernel_rfl)) (fun _ _ _ h => h) (Or.inr ⟨by rfl, rfl⟩) ?_ ?_
          rotate_left
          · simp only [Act.put, List.setIfInBounds_toArray, List.set_cons_zero, List.set_cons_succ]
            rfl
          refine pure_ (i := 25) (N := some 67) (v := undef) (a' := ?_) #[true, true, true, true, true, true, true, true, true, true, true, true, true, true, true, true, true, true, true, true, true, true, true, true, true, true, false, false, false] rfl rfl (any_of HT_.out (by kernel_rfl)) (fun _ _ _ h => h) (Or.inr ⟨by rfl, rfl⟩) ?_ ?_
          rotate_left
          · simp only [Act.put, List.setIfInBounds_toArray, List.set_cons_zero, List.set_cons_succ]
            rfl
          refine pure_ (i := 26) (N := some 68) (v := undef) (a' := ?_) #[true, true, true, true, true, true, true, true, true, true, true, true, true, true, true, true, true, true, true, true, true, true, true, true, true, true, true, false, false] rfl rfl (any_of HT_.out (by kernel_rfl)) (fun _ _ _ h => h) (Or.inr ⟨by rfl, rfl⟩) ?_ ?_
          rotate_left
          · simp only [Act.put, List.setIfInBounds_toArray, List.set_cons_zero, List.set_cons_succ]
            rfl
          refine pure_ (i := 27) (N := some 69) (v := ?_) (a' := ?_) #[true, true, true, true, true, true, true, true, true, true, true, true, true, true, true, true, true, true, true, true, true, true, true, true, true, true, true, true, false] rfl rfl (any_of HT_.out (by kernel_rfl)) (fun _ _ _ h => h) (Or.inl ⟨by rfl, ?_⟩) ?_ ?_
          rotate_left
          · intro w'
            go_simp
            with_reducible rfl
          rotate_left
          · simp only [Act.put, List.setIfInBounds_toArray, List.set_cons_zero, List.set_cons_succ]
            rfl
          refine pure_ (i := 28) (N := some 2) (v := ?_) (a' := ?_) #[true, true, true, true, true, true, true, true, true, true, true, true, true, true, true, true, true, true, true, true, true, true, true, true, true, true, true, true, true] rfl rfl (any_of HT_.out (by kernel_rfl)) (fun _ _ _ h => h) (Or.inl ⟨by rfl, ?_⟩) ?_ ?_
          rotate_left
          · intro w'
            go_simp
            with_reducible rfl
          rotate_left
          · simp only [Act.put, List.setIfInBounds_toArray, List.set_cons_zero, List.set_cons_succ]
            rfl
          refine done_ (done_of HT_.out (by kernel_rfl)) ?_
          try go_wp2
          go_ret
          exact ⟨by first | rfl | (simp [errW_none, errW_some] <;> rfl) | (simp [*, errW_none, errW_some] <;> rfl), by repeat (first | (with_reducible first | exact HB.out | apply below_alloc | apply pw_below_drewN | apply below_drew1 | refine below_set ?_ GE138.out | refine below_set ?_ GE139.out | refine below_set ?_ GE140.out) | exact HB.out)⟩
      · rw [if_neg c10] at H
        have c10b0 : (t141 == t147) = false := beq_eq_false_iff_ne.mpr c10
        have c10b1 : (t141 != t147) = true := bne_iff_ne.mpr c10
        obtain rfl := Option.some.inj H
        go_enter Try.func3, Try.ntmps3
        try go_wp2_with (first | ((with_reducible refine gate_dst (N := 1) rfl ?_); refine box_event ?hg (N := 1) ?hd (cs := #[.int .u64 a0_0, .int .u64 a0_1]) (t := 25) ?hr ?_; (case hd => rfl); (case hg => rfl); (case hr => first | (go_simp; done) | (go_simp; rfl)); intro gb138 hg w80 hbox hb; have n0_ := Aside0.mk (below_step (by repeat (first | (with_reducible first | exact HB.out | apply below_alloc | apply pw_below_drewN | apply below_drew1) | exact HB.out)) hb); have n1_ := Aside0.mk (hbox); have n2_ := Aside0.mk ((by rw [hg]; exact (below_size (by repeat (first | (with_reducible first | exact HB.out | apply below_alloc | apply pw_below_drewN | apply below_drew1) | exact HB.out))) : w.heap.size ≤ gb138)); have n3_ := Aside0.mk ((by rw [hg]; exact (below_size (by repeat (first | (with_reducible first | exact HB.out | apply below_alloc | apply pw_below_drewN | apply below_drew1) | exact HB.out))) : w.heap.size ≤ gb138)); clear HB; have HB := n0_; have BK138 := n1_; have GW138 := n2_; have GE138 := n3_; clear n0_ n1_ n2_ n3_; clear hb hbox hg; have hcz81_0 : w80.cell? ⟨gb138, 0, none⟩ = some (.int .u64 a0_0) := (blk_cell BK138.out 0).trans rfl; have hcz81_1 : w80.cell? ⟨gb138, 1, none⟩ = some (.int .u64 a0_1) := (blk_cell BK138.out 1).trans rfl; have hfz81_0 := blk_frozen BK138.out 0; have hfz81_1 := blk_frozen BK138.out 1))
        have n0_ := Aside0.mk (blk_drew BK138.out)
        have n1_ := Aside0.mk (below_drew1 HB.out)
        clear BK138
        clear HB
        have BK138 := n0_
        have HB := n1_
        clear n0_ n1_
        refine start_ (n := 16) (S := fun w' => w'.cell? ⟨gb138, 0, none⟩ = some (.int .u64 a0_0) ∧ w'.cell? ⟨gb138, 1, none⟩ = some (.int .u64 a0_1)) (ds := []) #[false, false, false, false, false, false, false, false, false, false, false, false, false, false, false, false] (by kernel_rfl) rfl rfl ⟨(blk_cell BK138.out 0).trans rfl, (blk_cell BK138.out 1).trans rfl⟩ (fun hHeld => ?_); refine with_tabW lawFC.tab3 lawFC.bits3 (fun HT_ HW_ => ?_)
        generalize w80.drew = w82 at BK138 HB hHeld ⊢
        refine pure_ (i := 0) (N := some 14) (v := ?_) (a' := ?_) #[true, false, false, false, false, false, false, false, false, false, false, false, false, false, false, false] rfl rfl (any_of HT_.out (by kernel_rfl)) (fun _ _ _ h => h) (Or.inl ⟨by rfl, ?_⟩) ?_ ?_
        rotate_left
        · intro w'
          go_simp
          with_reducible rfl
        rotate_left
        · simp only [Act.put, List.setIfInBounds_toArray, List.set_cons_zero, List.set_cons_succ]
          rfl
        refine pure_ (i := 2) (N := some 16) (v := ?_) (a' := ?_) #[true, false, true, false, false, false, false, false, false, false, false, false, false, false, false, false] rfl rfl (any_of HT_.out (by kernel_rfl)) (fun _ _ _ h => h) (Or.inl ⟨by rfl, ?_⟩) ?_ ?_
        rotate_left
        · intro w'
          go_simp
          with_reducible rfl
        rotate_left
        · simp only [Act.put, List.setIfInBounds_toArray, List.set_cons_zero, List.set_cons_succ]
          rfl
        refine pure_ (i := 6) (N := some 20) (v := ?_) (a' := ?_) #[true, false, true, false, false, false, true, false, false, false, false, false, false, false, false, false] rfl rfl (any_of HT_.out (by kernel_rfl)) (fun _ _ _ h => h) (Or.inl ⟨by rfl, ?_⟩) ?_ ?_
        rotate_left
        · intro w'
          go_simp
          with_reducible rfl
        rotate_left
        · simp only [Act.put, List.setIfInBounds_toArray, List.set_cons_zero, List.set_cons_succ]
          rfl
        refine pure_ (i := 8) (N := some 22) (v := ?_) (a' := ?_) #[true, false, true, false, false, false, true, false, true, false, false, false, false, false, false, false] rfl rfl (any_of HT_.out (by kernel_rfl)) (fun _ _ _ h => h) (Or.inl ⟨by rfl, ?_⟩) ?_ ?_
        rotate_left
        · intro w'
          go_simp
          with_reducible rfl
        rotate_left
        · simp only [Act.put, List.setIfInBounds_toArray, List.set_cons_zero, List.set_cons_succ]
          rfl
        refine take_ (i := 1) (N := some 15) (v := ?_) (a' := ?_) #[true, true, true, false, false, false, true, false, true, false, false, false, false, false, false, false] rfl rfl (take_ofW HT_.out HW_.out (by kernel_rfl)) (fun _ _ _ h => h) (Or.inl ⟨by rfl, ?_⟩) hHeld ?_ ?_
        rotate_left
        · rintro w' ⟨s0, s1⟩
          go_simp
          with_reducible rfl
        rotate_left
        · simp only [Act.put, List.setIfInBounds_toArray, List.set_cons_zero, List.set_cons_succ]
          rfl
        refine take_ (i := 3) (N := some 17) (v := ?_) (a' := ?_) #[true, true, true, true, false, false, true, false, true, false, false, false, false, false, false, false] rfl rfl (take_ofW HT_.out HW_.out (by kernel_rfl)) (fun _ _ _ h => h) (Or.inl ⟨by rfl, ?_⟩) hHeld ?_ ?_
        rotate_left
        · rintro w' ⟨s0, s1⟩
          go_simp
          with_reducible rfl
        rotate_left
        · simp only [Act.put, List.setIfInBounds_toArray, List.set_cons_zero, List.set_cons_succ]
          rfl
        refine pure_ (i := 4) (N := some 18) (v := ?_) (a' := ?_) #[true, true, true, true, true, false, true, false, true, false, false, false, false, false, false, false] rfl rfl (any_of HT_.out (by kernel_rfl)) (fun _ _ _ h => h) (Or.inl ⟨by rfl, ?_⟩) ?_ ?_
        rotate_left
        · intro w'
          go_simp
          with_reducible rfl
        rotate_left
        · simp only [Act.put, List.setIfInBounds_toArray, List.set_cons_zero, List.set_cons_succ]
          rfl
        refine pure_ (i := 5) (N := some 19) (v := ?_) (a' := ?_) #[true, true, true, true, true, true, true, false, true, false, false, false, false, false, false, false] rfl rfl (any_of HT_.out (by kernel_rfl)) (fun _ _ _ h => h) (Or.inl ⟨by rfl, ?_⟩) ?_ ?_
        rotate_left
        · intro w'
          go_simp
          with_reducible rfl
        rotate_left
        · simp only [Act.put, List.setIfInBounds_toArray, List.set_cons_zero, List.set_cons_succ]
          rfl
        refine take_ (i := 7) (N := some 21) (v := ?_) (a' := ?_) #[true, true, true, true, true, true, true, true, true, false, false, false, false, false, false, false] rfl rfl (take_ofW HT_.out HW_.out (by kernel_rfl)) (fun _ _ _ h => h) (Or.inl ⟨by rfl, ?_⟩) hHeld ?_ ?_
        rotate_left
        · rintro w' ⟨s0, s1⟩
          go_simp
          with_reducible rfl
        rotate_left
        · simp only [Act.put, List.setIfInBounds_toArray, List.set_cons_zero, List.set_cons_succ]
          rfl
        refine take_ (i := 9) (N := some 23) (v := ?_) (a' := ?_) #[true, true, true, true, true, true, true, true, true, true, false, false, false, false, false, false] rfl rfl (take_ofW HT_.out HW_.out (by kernel_rfl)) (fun _ _ _ h => h) (Or.inl ⟨by rfl, ?_⟩) hHeld ?_ ?_
        rotate_left
        · rintro w' ⟨s0, s1⟩
          go_simp
          with_reducible rfl
        rotate_left
        · simp only [Act.put, List.setIfInBounds_toArray, List.set_cons_zero, List.set_cons_succ]
          rfl
        refine pure_ (i := 10) (N := some 24) (v := ?_) (a' := ?_) #[true, true, true, true, true, true, true, true, true, true, true, false, false, false, false, false] rfl rfl (any_of HT_.out (by kernel_rfl)) (fun _ _ _ h => h) (Or.inl ⟨by rfl, ?_⟩) ?_ ?_
        rotate_left
        · intro w'
          go_simp
          with_reducible rfl
        rotate_left
        · simp only [Act.put, List.setIfInBounds_toArray, List.set_cons_zero, List.set_cons_succ]
          rfl
        refine pure_ (i := 11) (N := some 25) (v := ?_) (a' := ?_) #[true, true, true, true, true, true, true, true, true, true, true, true, false, false, false, false] rfl rfl (any_of HT_.out (by kernel_rfl)) (fun _ _ _ h => h) (Or.inl ⟨by rfl, ?_⟩) ?_ ?_
        rotate_left
        · intro w'
          go_simp
          with_reducible rfl
        rotate_left
        · simp only [Act.put, List.setIfInBounds_toArray, List.set_cons_zero, List.set_cons_succ]
          rfl
        refine join_ (σ := Nat × Nat) 2 #[true, true, true, true, true, true, true, true, true, true, true, true, true, true, false, false] (fun s_ => [(3, .pointer (some ⟨s_.1, 0, none⟩)), (4, .pointer (some ⟨s_.2, 0, none⟩))]) (fun s_ w' => (w'.cell? ⟨gb138, 0, none⟩ = some (.int .u64 a0_0) ∧ w'.cell? ⟨gb138, 1, none⟩ = some (.int .u64 a0_1)) ∧ (w'.heap[gb138]? = some (.cells #[.int .u64 a0_0, .int .u64 a0_1] 25 (0, 0))) ∧ (w'.heap[s_.1]? = some (.cells #[.int .u64 0, .int .u64 0] 25 (0, 0))) ∧ (w'.heap[s_.2]? = some (.cells #[.int .u64 0, .int .u64 0] 25 (0, 0))) ∧ (w.heap.size ≤ s_.1) ∧ (w.heap.size ≤ s_.1) ∧ (gb138 ≠ s_.1) ∧ (s_.1 ≠ gb138) ∧ (s_.2 ≠ s_.1) ∧ (s_.1 ≠ s_.2) ∧ (w.heap.size ≤ s_.2) ∧ (w.heap.size ≤ s_.2) ∧ (gb138 ≠ s_.2) ∧ (s_.2 ≠ gb138) ∧ (Below w.heap.size w w')) ?_ ?_
        rotate_left
        · intro hCont
          refine two_ (i := 12) (j := 13) (Ni := some 3) (Nj := some 4) #[true, true, true, true, true, true, true, true, true, true, true, true, true, false, false, false] #[true, true, true, true, true, true, true, true, true, true, true, true, false, true, false, false] rfl rfl rfl rfl (two_of HT_.out (by kernel_rfl)) (by decide) (by decide) (fun K hK => ?_) (fun K hK => ?_)
          · skip
            refine box_step ?hg (N := 3) ?hd (cs := #[.int .u64 0, .int .u64 0]) (t := 25) ?hr ?_; (case hd => rfl); (case hg => rfl); (case hr => first | (go_simp; done) | (go_simp; rfl))
            intro gb139 hg w83 hbox hb
            have n0_ := Aside0.mk (blk_below (g := gb138) (o := .cells #[.int .u64 a0_0, .int .u64 a0_1] 25 (0, 0)) (by (with_reducible repeat (first | refine blk_drewN ?_ _ | refine blk_drew ?_ | refine blk_alloc ?_ _)); exact BK138.out) hb)
            have n1_ := Aside0.mk (below_step (by repeat (first | (with_reducible first | exact HB.out | apply below_alloc | apply pw_below_drewN | apply below_drew1 | refine below_set ?_ GE138.out) | exact HB.out)) hb)
            have n2_ := Aside0.mk (hbox)
            have n3_ := Aside0.mk ((by rw [hg]; exact (below_size (by repeat (first | (with_reducible first | exact HB.out | apply below_alloc | apply pw_below_drewN | apply below_drew1 | refine below_set ?_ GE138.out) | exact HB.out))) : w.heap.size ≤ gb139))
            have n4_ := Aside0.mk ((by rw [hg]; exact (below_size (by repeat (first | (with_reducible first | exact HB.out | apply below_alloc | apply pw_below_drewN | apply below_drew1 | refine below_set ?_ GE138.out) | exact HB.out))) : w.heap.size ≤ gb139))
            have n5_ := Aside0.mk ((by rw [hg]; exact Nat.ne_of_lt (blk_lt (g := gb138) (o := .cells #[.int .u64 a0_0, .int .u64 a0_1] 25 (0, 0)) (by (with_reducible repeat (first | refine blk_drewN ?_ _ | refine blk_drew ?_ | refine blk_alloc ?_ _)); exact BK138.out)) : gb138 ≠ gb139))
            have n6_ := Aside0.mk ((by rw [hg]; exact Nat.ne_of_gt (blk_lt (g := gb138) (o := .cells #[.int .u64 a0_0, .int .u64 a0_1] 25 (0, 0)) (by (with_reducible repeat (first | refine blk_drewN ?_ _ | refine blk_drew ?_ | refine blk_alloc ?_ _)); exact BK138.out)) : gb139 ≠ gb138))
            clear BK138
            clear HB
            have BK138 := n0_
            have HB := n1_
            have BK139 := n2_
            have GW139 := n3_
            have GE139 := n4_
            have NB138_139 := n5_
            have NB139_138 := n6_
            clear n0_ n1_ n2_ n3_ n4_ n5_ n6_
            clear hb hbox hg
            refine hK.out _ _ ⟨(blk_cell BK138.out 0).trans rfl, (blk_cell BK138.out 1).trans rfl⟩ (fun hHeld => ?_)
            clear hK K
            refine norm_ (a' := ?_) ?_ ?_
            rotate_left
            · show Act.put _ (some 3) _ = _
              simp only [Act.put, List.setIfInBounds_toArray, List.set_cons_zero, List.set_cons_succ]
              rfl
            refine one_ (i := 13) (N := some 4) #[true, true, true, true, true, true, true, true, true, true, true, true, true, true, false, false] rfl rfl (one_of HT_.out (by kernel_rfl)) (by decide) (fun K hK => ?_)
            refine box_step ?hg (N := 4) ?hd (cs := #[.int .u64 0, .int .u64 0]) (t := 25) ?hr ?_; (case hd => rfl); (case hg => rfl); (case hr => first | (go_simp; done) | (go_simp; rfl))
            intro gb140 hg w84 hbox hb
            have n0_ := Aside0.mk (blk_below (g := gb138) (o := .cells #[.int .u64 a0_0, .int .u64 a0_1] 25 (0, 0)) (by (with_reducible repeat (first | refine blk_drewN ?_ _ | refine blk_drew ?_ | refine blk_alloc ?_ _)); exact BK138.out) hb)
            have n1_ := Aside0.mk (blk_below (g := gb139) (o := .cells #[.int .u64 0, .int .u64 0] 25 (0, 0)) (by (with_reducible repeat (first | refine blk_drewN ?_ _ | refine blk_drew ?_ | refine blk_alloc ?_ _)); exact BK139.out) hb)
            have n2_ := Aside0.mk (below_step (by repeat (first | (with_reducible first | exact HB.out | apply below_alloc | apply pw_below_drewN | apply below_drew1 | refine below_set ?_ GE138.out | refine below_set ?_ GE139.out) | exact HB.out)) hb)
            have n3_ := Aside0.mk (hbox)
            have n4_ := Aside0.mk ((by rw [hg]; exact (below_size (by repeat (first | (with_reducible first | exact HB.out | apply below_alloc | apply pw_below_drewN | apply below_drew1 | refine below_set ?_ GE138.out | refine below_set ?_ GE139.out) | exact HB.out))) : w.heap.size ≤ gb140))
            have n5_ := Aside0.mk ((by rw [hg]; exact (below_size (by repeat (first | (with_reducible first | exact HB.out | apply below_alloc | apply pw_below_drewN | apply below_drew1 | refine below_set ?_ GE138.out | refine below_set ?_ GE139.out) | exact HB.out))) : w.heap.size ≤ gb140))
            have n6_ := Aside0.mk ((by rw [hg]; exact Nat.ne_of_lt (blk_lt (g := gb138) (o := .cells #[.int .u64 a0_0, .int .u64 a0_1] 25 (0, 0)) (by (with_reducible repeat (first | refine blk_drewN ?_ _ | refine blk_drew ?_ | refine blk_alloc ?_ _)); exact BK138.out)) : gb138 ≠ gb140))
            have n7_ := Aside0.mk ((by rw [hg]; exact Nat.ne_of_gt (blk_lt (g := gb138) (o := .cells #[.int .u64 a0_0, .int .u64 a0_1] 25 (0, 0)) (by (with_reducible repeat (first | refine blk_drewN ?_ _ | refine blk_drew ?_ | refine blk_alloc ?_ _)); exact BK138.out)) : gb140 ≠ gb138))
            have n8_ := Aside0.mk ((by rw [hg]; exact Nat.ne_of_lt (blk_lt (g := gb139) (o := .cells #[.int .u64 0, .int .u64 0] 25 (0, 0)) (by (with_reducible repeat (first | refine blk_drewN ?_ _ | refine blk_drew ?_ | refine blk_alloc ?_ _)); exact BK139.out)) : gb139 ≠ gb140))
            have n9_ := Aside0.mk ((by rw [hg]; exact Nat.ne_of_gt (blk_lt (g := gb139) (o := .cells #[.int .u64 0, .int .u64 0] 25 (0, 0)) (by (with_reducible repeat (first | refine blk_drewN ?_ _ | refine blk_drew ?_ | refine blk_alloc ?_ _)); exact BK139.out)) : gb140 ≠ gb139))
            clear BK138
            clear BK139
            clear HB
            have BK138 := n0_
            have BK139 := n1_
            have HB := n2_
            have BK140 := n3_
            have GW140 := n4_
            have GE140 := n5_
            have NB138_140 := n6_
            have NB140_138 := n7_
            have NB139_140 := n8_
            have NB140_139 := n9_
            clear n0_ n1_ n2_ n3_ n4_ n5_ n6_ n7_ n8_ n9_
            clear hb hbox hg
            refine hK.out _ _ ⟨(blk_cell BK138.out 0).trans rfl, (blk_cell BK138.out 1).trans rfl⟩ (fun hHeld => ?_)
            clear hK K
            refine norm_ (a' := ?_) ?_ ?_
            rotate_left
            · show Act.put _ (some 4) _ = _
              simp only [Act.put, List.setIfInBounds_toArray, List.set_cons_zero, List.set_cons_succ]
              rfl
            exact norm_ (by simp only [putAll, Act.put, List.setIfInBounds_toArray, List.set_cons_zero, List.set_cons_succ]) (hCont (gb139, gb140) _ ⟨hHeld, (by (with_reducible repeat (first | refine blk_drewN ?_ _ | refine blk_drew ?_ | refine blk_alloc ?_ _)); exact BK138.out), (by (with_reducible repeat (first | refine blk_drewN ?_ _ | refine blk_drew ?_ | refine blk_alloc ?_ _)); exact BK139.out), (by (with_reducible repeat (first | refine blk_drewN ?_ _ | refine blk_drew ?_ | refine blk_alloc ?_ _)); exact BK140.out), GW139.out, GE139.out, NB138_139.out, NB139_138.out, NB140_139.out, NB139_140.out, GW140.out, GE140.out, NB138_140.out, NB140_138.out, (by repeat (first | (with_reducible first | exact HB.out | apply below_alloc | apply pw_below_drewN | apply below_drew1 | refine below_set ?_ GE138.out | refine below_set ?_ GE139.out | refine below_set ?_ GE140.out) | exact HB.out))⟩)
          · skip
            refine box_step ?hg (N := 4) ?hd (cs := #[.int .u64 0, .int .u64 0]) (t := 25) ?hr ?_; (case hd => rfl); (case hg => rfl); (case hr => first | (go_simp; done) | (go_simp; rfl))
            intro gb140 hg w83 hbox hb
            have n0_ := Aside0.mk (blk_below (g := gb138) (o := .cells #[.int .u64 a0_0, .int .u64 a0_1] 25 (0, 0)) (by (with_reducible repeat (first | refine blk_drewN ?_ _ | refine blk_drew ?_ | refine blk_alloc ?_ _)); exact BK138.out) hb)
            have n1_ := Aside0.mk (below_step (by repeat (first | (with_reducible first | exact HB.out | apply below_alloc | apply pw_below_drewN | apply below_drew1 | refine below_set ?_ GE138.out) | exact HB.out)) hb)
            have n2_ := Aside0.mk (hbox)
            have n3_ := Aside0.mk ((by rw [hg]; exact (below_size (by repeat (first | (with_reducible first | exact HB.out | apply below_alloc | apply pw_below_drewN | apply below_drew1 | refine below_set ?_ GE138.out) | exact HB.out))) : w.heap.size ≤ gb140))
            have n4_ := Aside0.mk ((by rw [hg]; exact (below_size (by repeat (first | (with_reducible first | exact HB.out | apply below_alloc | apply pw_below_drewN | apply below_drew1 | refine below_set ?_ GE138.out) | exact HB.out))) : w.heap.size ≤ gb140))
            have n5_ := Aside0.mk ((by rw [hg]; exact Nat.ne_of_lt (blk_lt (g := gb138) (o := .cells #[.int .u64 a0_0, .int .u64 a0_1] 25 (0, 0)) (by (with_reducible repeat (first | refine blk_drewN ?_ _ | refine blk_drew ?_ | refine blk_alloc ?_ _)); exact BK138.out)) : gb138 ≠ gb140))
            have n6_ := Aside0.mk ((by rw [hg]; exact Nat.ne_of_gt (blk_lt (g := gb138) (o := .cells #[.int .u64 a0_0, .int .u64 a0_1] 25 (0, 0)) (by (with_reducible repeat (first | refine blk_drewN ?_ _ | refine blk_drew ?_ | refine blk_alloc ?_ _)); exact BK138.out)) : gb140 ≠ gb138))
            clear BK138
            clear HB
            have BK138 := n0_
            have HB := n1_
            have BK140 := n2_
            have GW140 := n3_
            have GE140 := n4_
            have NB138_140 := n5_
            have NB140_138 := n6_
            clear n0_ n1_ n2_ n3_ n4_ n5_ n6_
            clear hb hbox hg
            refine hK.out _ _ ⟨(blk_cell BK138.out 0).trans rfl, (blk_cell BK138.out 1).trans rfl⟩ (fun hHeld => ?_)
            clear hK K
            refine norm_ (a' := ?_) ?_ ?_
            rotate_left
            · show Act.put _ (some 4) _ = _
              simp only [Act.put, List.setIfInBounds_toArray, List.set_cons_zero, List.set_cons_succ]
              rfl
            refine one_ (i := 12) (N := some 3) #[true, true, true, true, true, true, true, true, true, true, true, true, true, true, false, false] rfl rfl (one_of HT_.out (by kernel_rfl)) (by decide) (fun K hK => ?_)
            refine box_step ?hg (N := 3) ?hd (cs := #[.int .u64 0, .int .u64 0]) (t := 25) ?hr ?_; (case hd => rfl); (case hg => rfl); (case hr => first | (go_simp; done) | (go_simp; rfl))
            intro gb139 hg w84 hbox hb
            have n0_ := Aside0.mk (blk_below (g := gb138) (o := .cells #[.int .u64 a0_0, .int .u64 a0_1] 25 (0, 0)) (by (with_reducible repeat (first | refine blk_drewN ?_ _ | refine blk_drew ?_ | refine blk_alloc ?_ _)); exact BK138.out) hb)
            have n1_ := Aside0.mk (blk_below (g := gb140) (o := .cells #[.int .u64 0, .int .u64 0] 25 (0, 0)) (by (with_reducible repeat (first | refine blk_drewN ?_ _ | refine blk_drew ?_ | refine blk_alloc ?_ _)); exact BK140.out) hb)
            have n2_ := Aside0.mk (below_step (by repeat (first | (with_reducible first | exact HB.out | apply below_alloc | apply pw_below_drewN | apply below_drew1 | refine below_set ?_ GE138.out | refine below_set ?_ GE140.out) | exact HB.out)) hb)
            have n3_ := Aside0.mk (hbox)
            have n4_ := Aside0.mk ((by rw [hg]; exact (below_size (by repeat (first | (with_reducible first | exact HB.out | apply below_alloc | apply pw_below_drewN | apply below_drew1 | refine below_set ?_ GE138.out | refine below_set ?_ GE140.out) | exact HB.out))) : w.heap.size ≤ gb139))
            have n5_ := Aside0.mk ((by rw [hg]; exact (below_size (by repeat (first | (with_reducible first | exact HB.out | apply below_alloc | apply pw_below_drewN | apply below_drew1 | refine below_set ?_ GE138.out | refine below_set ?_ GE140.out) | exact HB.out))) : w.heap.size ≤ gb139))
            have n6_ := Aside0.mk ((by rw [hg]; exact Nat.ne_of_lt (blk_lt (g := gb138) (o := .cells #[.int .u64 a0_0, .int .u64 a0_1] 25 (0, 0)) (by (with_reducible repeat (first | refine blk_drewN ?_ _ | refine blk_drew ?_ | refine blk_alloc ?_ _)); exact BK138.out)) : gb138 ≠ gb139))
            have n7_ := Aside0.mk ((by rw [hg]; exact Nat.ne_of_gt (blk_lt (g := gb138) (o := .cells #[.int .u64 a0_0, .int .u64 a0_1] 25 (0, 0)) (by (with_reducible repeat (first | refine blk_drewN ?_ _ | refine blk_drew ?_ | refine blk_alloc ?_ _)); exact BK138.out)) : gb139 ≠ gb138))
            have n8_ := Aside0.mk ((by rw [hg]; exact Nat.ne_of_lt (blk_lt (g := gb140) (o := .cells #[.int .u64 0, .int .u64 0] 25 (0, 0)) (by (with_reducible repeat (first | refine blk_drewN ?_ _ | refine blk_drew ?_ | refine blk_alloc ?_ _)); exact BK140.out)) : gb140 ≠ gb139))
            have n9_ := Aside0.mk ((by rw [hg]; exact Nat.ne_of_gt (blk_lt (g := gb140) (o := .cells #[.int .u64 0, .int .u64 0] 25 (0, 0)) (by (with_reducible repeat (first | refine blk_drewN ?_ _ | refine blk_drew ?_ | refine blk_alloc ?_ _)); exact BK140.out)) : gb139 ≠ gb140))
            clear BK138
            clear BK140
            clear HB
            have BK138 := n0_
            have BK140 := n1_
            have HB := n2_
            have BK139 := n3_
            have GW139 := n4_
            have GE139 := n5_
            have NB138_139 := n6_
            have NB139_138 := n7_
            have NB140_139 := n8_
            have NB139_140 := n9_
            clear n0_ n1_ n2_ n3_ n4_ n5_ n6_ n7_ n8_ n9_
            clear hb hbox hg
            refine hK.out _ _ ⟨(blk_cell BK138.out 0).trans rfl, (blk_cell BK138.out 1).trans rfl⟩ (fun hHeld => ?_)
            clear hK K
            refine norm_ (a' := ?_) ?_ ?_
            rotate_left
            · show Act.put _ (some 3) _ = _
              simp only [Act.put, List.setIfInBounds_toArray, List.set_cons_zero, List.set_cons_succ]
              rfl
            exact norm_ (by simp only [putAll, Act.put, List.setIfInBounds_toArray, List.set_cons_zero, List.set_cons_succ]) (hCont (gb139, gb140) _ ⟨hHeld, (by (with_reducible repeat (first | refine blk_drewN ?_ _ | refine blk_drew ?_ | refine blk_alloc ?_ _)); exact BK138.out), (by (with_reducible repeat (first | refine blk_drewN ?_ _ | refine blk_drew ?_ | refine blk_alloc ?_ _)); exact BK139.out), (by (with_reducible repeat (first | refine blk_drewN ?_ _ | refine blk_drew ?_ | refine blk_alloc ?_ _)); exact BK140.out), GW139.out, GE139.out, NB138_139.out, NB139_138.out, NB140_139.out, NB139_140.out, GW140.out, GE140.out, NB138_140.out, NB140_138.out, (by repeat (first | (with_reducible first | exact HB.out | apply below_alloc | apply pw_below_drewN | apply below_drew1 | refine below_set ?_ GE138.out | refine below_set ?_ GE140.out | refine below_set ?_ GE139.out) | exact HB.out))⟩)
        rintro ⟨gb139, gb140⟩ w85 ⟨hS_, h0_, h1_, h2_, h3_, h4_, h5_, h6_, h7_, h8_, h9_, h10_, h11_, h12_, h13_⟩
        have n0_ : Aside0 (w85.heap[gb138]? = some (.cells #[.int .u64 a0_0, .int .u64 a0_1] 25 (0, 0))) := ⟨h0_⟩
        have n1_ : Aside0 (w85.heap[gb139]? = some (.cells #[.int .u64 0, .int .u64 0] 25 (0, 0))) := ⟨h1_⟩
        have n2_ : Aside0 (w85.heap[gb140]? = some (.cells #[.int .u64 0, .int .u64 0] 25 (0, 0))) := ⟨h2_⟩
        have n3_ : Aside0 (w.heap.size ≤ gb139) := ⟨h3_⟩
        have n4_ : Aside0 (w.heap.size ≤ gb139) := ⟨h4_⟩
        have n5_ : Aside0 (gb138 ≠ gb139) := ⟨h5_⟩
        have n6_ : Aside0 (gb139 ≠ gb138) := ⟨h6_⟩
        have n7_ : Aside0 (gb140 ≠ gb139) := ⟨h7_⟩
        have n8_ : Aside0 (gb139 ≠ gb140) := ⟨h8_⟩
        have n9_ : Aside0 (w.heap.size ≤ gb140) := ⟨h9_⟩
        have n10_ : Aside0 (w.heap.size ≤ gb140) := ⟨h10_⟩
        have n11_ : Aside0 (gb138 ≠ gb140) := ⟨h11_⟩
        have n12_ : Aside0 (gb140 ≠ gb138) := ⟨h12_⟩
        have n13_ : Aside0 (Below w.heap.size w w85) := ⟨h13_⟩
        clear BK138
        clear HB
        clear h0_ h1_ h2_ h3_ h4_ h5_ h6_ h7_ h8_ h9_ h10_ h11_ h12_ h13_
        have BK138 := n0_
        have BK139 := n1_
        have BK140 := n2_
        have GW139 := n3_
        have GE139 := n4_
        have NB138_139 := n5_
        have NB139_138 := n6_
        have NB140_139 := n7_
        have NB139_140 := n8_
        have GW140 := n9_
        have GE140 := n10_
        have NB138_140 := n11_
        have NB140_138 := n12_
        have HB := n13_
        clear n0_ n1_ n2_ n3_ n4_ n5_ n6_ n7_ n8_ n9_ n10_ n11_ n12_ n13_
        have hHeld : w85.cell? ⟨gb138, 0, none⟩ = some (.int .u64 a0_0) ∧ w85.cell? ⟨gb138, 1, none⟩ = some (.int .u64 a0_1) := hS_
        refine norm_ (a' := ?_) ?_ ?_
        rotate_left
        · simp only [putAll, Act.put, List.setIfInBounds_toArray, List.set_cons_zero, List.set_cons_succ]
          rfl
        refine one_ (i := 14) (N := none) #[true, true, true, true, true, true, true, true, true, true, true, true, true, true, true, false] rfl rfl (one_of HT_.out (by kernel_rfl)) (by decide) (fun K hK => ?_)
        have hs86 : w85.cell? ⟨gb139, 0, none⟩ = some (.int .u64 0) := (blk_cell BK139.out 0).trans rfl
        have hfs86 := blk_frozen BK139.out 0
        have hns86_0 := NB138_139.out
        have hns86_2 := NB140_139.out
        have hms86_0 := NB139_138.out
        have hms86_2 := NB139_140.out
        have hs87 : w85.cell? ⟨gb139, 1, none⟩ = some (.int .u64 0) := (blk_cell BK139.out 1).trans rfl
        have hfs87 := blk_frozen BK139.out 1
        have hns87_0 := NB138_139.out
        have hns87_2 := NB140_139.out
        have hms87_0 := NB139_138.out
        have hms87_2 := NB139_140.out
        refine skip_ (w1 := ?_) (by rfl) rfl ?_ ?_
        rotate_left
        · go_simp
          rfl
        refine hK.out _ _ ⟨((cell_far (p := ⟨gb139, _, none⟩) NB138_139.out _).trans (((cell_far (p := ⟨gb139, _, none⟩) NB138_139.out _).trans (hHeld.1)))), ((cell_far (p := ⟨gb139, _, none⟩) NB138_139.out _).trans (((cell_far (p := ⟨gb139, _, none⟩) NB138_139.out _).trans (hHeld.2))))⟩ (fun hHeld => ?_)
        clear hK K
        refine one_ (i := 15) (N := none) #[true, true, true, true, true, true, true, true, true, true, true, true, true, true, true, true] rfl rfl (one_of HT_.out (by kernel_rfl)) (by decide) (fun K hK => ?_)
        have hs88 : w85.cell? ⟨gb140, 0, none⟩ = some (.int .u64 0) := (blk_cell BK140.out 0).trans rfl
        have hfs88 := blk_frozen BK140.out 0
        have hns88_0 := NB138_140.out
        have hns88_1 := NB139_140.out
        have hms88_0 := NB140_138.out
        have hms88_1 := NB140_139.out
        have hs89 : w85.cell? ⟨gb140, 1, none⟩ = some (.int .u64 0) := (blk_cell BK140.out 1).trans rfl
        have hfs89 := blk_frozen BK140.out 1
        have hns89_0 := NB138_140.out
        have hns89_1 := NB139_140.out
        have hms89_0 := NB140_138.out
        have hms89_1 := NB140_139.out
        refine skip_ (w1 := ?_) (by rfl) rfl ?_ ?_
        rotate_left
        · go_simp
          rfl
        refine hK.out _ _ ⟨((cell_far (p := ⟨gb140, _, none⟩) NB138_140.out _).trans (((cell_far (p := ⟨gb140, _, none⟩) NB138_140.out _).trans (hHeld.1)))), ((cell_far (p := ⟨gb140, _, none⟩) NB138_140.out _).trans (((cell_far (p := ⟨gb140, _, none⟩) NB138_140.out _).trans (hHeld.2))))⟩ (fun hHeld => ?_)
        clear hK K
        refine done_ (done_of HT_.out (by kernel_rfl)) ?_
        have hnb90 := NB139_138.out
        have hnc90 := NB138_139.out
        have hnb91 := NB139_140.out
        have hnc91 := NB140_139.out
        have hcz92_0 : w85.cell? ⟨gb139, 0, none⟩ = some (.int .u64 0) := (blk_cell BK139.out 0).trans rfl
        have hcz92_1 : w85.cell? ⟨gb139, 1, none⟩ = some (.int .u64 0) := (blk_cell BK139.out 1).trans rfl
        have hfz92_0 := blk_frozen BK139.out 0
        have hfz92_1 := blk_frozen BK139.out 1
        try go_wp2_with (first | ((with_reducible refine gate_callee (f := 4) rfl ?_); refine goesL_ (some 28) rfl rfl Try.func4 (by kernel_rfl) rfl #[.agg #[.int .u64 a0_0, .int .u64 (Go.bits .andNot .u64 a0_1 1)]] rfl (by (try simp only [List.map_toArray, List.map_cons, List.map_nil]); first | done | rfl | (simp only [List.length_drop, List.length_take]; rfl)) ?_; (with_reducible refine (impl_Coverage.calls a0_0 (Go.bits .andNot .u64 a0_1 1) t141 t142 _ A5.out).mono ?_); rintro e w93 ⟨rfl, hb⟩; refine ⟨_, rfl, ?_⟩; have n0_ := Aside0.mk (blk_below (g := gb138) (o := .cells #[.int .u64 a0_0, .int .u64 a0_1] 25 (0, 0)) (by (with_reducible repeat (first | refine blk_drewN ?_ _ | refine blk_drew ?_ | refine blk_alloc ?_ _)); refine blk_far ?_ NB138_140.out _; (with_reducible repeat (first | refine blk_drewN ?_ _ | refine blk_drew ?_ | refine blk_alloc ?_ _)); refine blk_far ?_ NB138_140.out _; (with_reducible repeat (first | refine blk_drewN ?_ _ | refine blk_drew ?_ | refine blk_alloc ?_ _)); refine blk_far ?_ NB138_139.out _; (with_reducible repeat (first | refine blk_drewN ?_ _ | refine blk_drew ?_ | refine blk_alloc ?_ _)); refine blk_far ?_ NB138_139.out _; (with_reducible repeat (first | refine blk_drewN ?_ _ | refine blk_drew ?_ | refine blk_alloc ?_ _)); exact BK138.out) hb); have n1_ := Aside0.mk (blk_below (g := gb139) (o := .cells #[.int .u64 a0_0, .int .u64 (Go.bits .andNot .u64 a0_1 1)] 25 (0, 0)) (by (with_reducible repeat (first | refine blk_drewN ?_ _ | refine blk_drew ?_ | refine blk_alloc ?_ _)); refine blk_far ?_ NB139_140.out _; (with_reducible repeat (first | refine blk_drewN ?_ _ | refine blk_drew ?_ | refine blk_alloc ?_ _)); refine blk_far ?_ NB139_140.out _; (with_reducible repeat (first | refine blk_drewN ?_ _ | refine blk_drew ?_ | refine blk_alloc ?_ _)); refine blk_put (cs := #[.int .u64 a0_0, .int .u64 0]) ?_ 1 _ rfl; (with_reducible repeat (first | refine blk_drewN ?_ _ | refine blk_drew ?_ | refine blk_alloc ?_ _)); refine blk_put (cs := #[.int .u64 0, .int .u64 0]) ?_ 0 _ rfl; (with_reducible repeat (first | refine blk_drewN ?_ _ | refine blk_drew ?_ | refine blk_alloc ?_ _)); exact BK139.out) hb); have n2_ := Aside0.mk (blk_below (g := gb140) (o := .cells #[.int .u64 a0_0, .int .u64 (Go.bits .or .u64 a0_1 1)] 25 (0, 0)) (by (with_reducible repeat (first | refine blk_drewN ?_ _ | refine blk_drew ?_ | refine blk_alloc ?_ _)); refine blk_put (cs := #[.int .u64 a0_0, .int .u64 0]) ?_ 1 _ rfl; (with_reducible repeat (first | refine blk_drewN ?_ _ | refine blk_drew ?_ | refine blk_alloc ?_ _)); refine blk_put (cs := #[.int .u64 0, .int .u64 0]) ?_ 0 _ rfl; (with_reducible repeat (first | refine blk_drewN ?_ _ | refine blk_drew ?_ | refine blk_alloc ?_ _)); refine blk_far ?_ NB140_139.out _; (with_reducible repeat (first | refine blk_drewN ?_ _ | refine blk_drew ?_ | refine blk_alloc ?_ _)); refine blk_far ?_ NB140_139.out _; (with_reducible repeat (first | refine blk_drewN ?_ _ | refine blk_drew ?_ | refine blk_alloc ?_ _)); exact BK140.out) hb); have n3_ := Aside0.mk (below_step (by repeat (first | (with_reducible first | exact HB.out | apply below_alloc | apply pw_below_drewN | apply below_drew1 | refine below_set ?_ GE138.out | refine below_set ?_ GE139.out | refine below_set ?_ GE140.out) | exact HB.out)) hb); clear BK138; clear BK139; clear BK140; clear HB; have BK138 := n0_; have BK139 := n1_; have BK140 := n2_; have HB := n3_; clear n0_ n1_ n2_ n3_; (try clear hb); (try clear hb2); (try clear hk); (try clear hi); have hnb94 := NB140_138.out; have hnc94 := NB138_140.out; have hcz95_0 : w93.cell? ⟨gb140, 0, none⟩ = some (.int .u64 a0_0) := (blk_cell BK140.out 0).trans rfl; have hcz95_1 : w93.cell? ⟨gb140, 1, none⟩ = some (.int .u64 (Go.bits .or .u64 a0_1 1)) := (blk_cell BK140.out 1).trans rfl; have hfz95_0 := blk_frozen BK140.out 0; have hfz95_1 := blk_frozen BK140.out 1) | ((with_reducible refine gate_callee (f := 4) rfl ?_); refine goesL_ (some 33) rfl rfl Try.func4 (by kernel_rfl) rfl #[.agg #[.int .u64 a0_0, .int .u64 (Go.bits .or .u64 a0_1 1)]] rfl (by (try simp only [List.map_toArray, List.map_cons, List.map_nil]); first | done | rfl | (simp only [List.length_drop, List.length_take]; rfl)) ?_; (with_reducible refine (impl_Coverage.calls a0_0 (Go.bits .or .u64 a0_1 1) t143 t144 _ A6.out).mono ?_); rintro e w96 ⟨rfl, hb⟩; refine ⟨_, rfl, ?_⟩; have n0_ := Aside0.mk (blk_below (g := gb138) (o := .cells #[.int .u64 a0_0, .int .u64 a0_1] 25 (0, 0)) (by (with_reducible repeat (first | refine blk_drewN ?_ _ | refine blk_drew ?_ | refine blk_alloc ?_ _)); exact BK138.out) hb); have n1_ := Aside0.mk (blk_below (g := gb139) (o := .cells #[.int .u64 a0_0, .int .u64 (Go.bits .andNot .u64 a0_1 1)] 25 (0, 0)) (by (with_reducible repeat (first | refine blk_drewN ?_ _ | refine blk_drew ?_ | refine blk_alloc ?_ _)); exact BK139.out) hb); have n2_ := Aside0.mk (blk_below (g := gb140) (o := .cells #[.int .u64 a0_0, .int .u64 (Go.bits .or .u64 a0_1 1)] 25 (0, 0)) (by (with_reducible repeat (first | refine blk_drewN ?_ _ | refine blk_drew ?_ | refine blk_alloc ?_ _)); exact BK140.out) hb); have n3_ := Aside0.mk (below_step (by repeat (first | (with_reducible first | exact HB.out | apply below_alloc | apply pw_below_drewN | apply below_drew1 | refine below_set ?_ GE138.out | refine below_set ?_ GE139.out | refine below_set ?_ GE140.out) | exact HB.out)) hb); clear BK138; clear BK139; clear BK140; clear HB; have BK138 := n0_; have BK139 := n1_; have BK140 := n2_; have HB := n3_; clear n0_ n1_ n2_ n3_; (try clear hb); (try clear hb2); (try clear hk); (try clear hi); have hcz97_0 : w96.cell? ⟨gb138, 0, none⟩ = some (.int .u64 a0_0) := (blk_cell BK138.out 0).trans rfl; have hcz97_1 : w96.cell? ⟨gb138, 1, none⟩ = some (.int .u64 a0_1) := (blk_cell BK138.out 1).trans rfl; have hfz97_0 := blk_frozen BK138.out 0; have hfz97_1 := blk_frozen BK138.out 1) | ((with_reducible refine gate_callee (f := 5) rfl ?_); refine goesL_ (some 38) rfl rfl Try.func5 (by kernel_rfl) rfl #[.agg #[.int .u64 a0_0, .int .u64 a0_1]] rfl (by (try simp only [List.map_toArray, List.map_cons, List.map_nil]); first | done | rfl | (simp only [List.length_drop, List.length_take]; rfl)) ?_; (with_reducible refine (impl_Parent.calls a0_0 a0_1 t145 t146 _ A7.out).mono ?_); rintro e w98 ⟨rfl, hb⟩; refine ⟨_, rfl, ?_⟩; have n0_ := Aside0.mk (blk_below (g := gb138) (o := .cells #[.int .u64 a0_0, .int .u64 a0_1] 25 (0, 0)) (by (with_reducible repeat (first | refine blk_drewN ?_ _ | refine blk_drew ?_ | refine blk_alloc ?_ _)); exact BK138.out) hb); have n1_ := Aside0.mk (blk_below (g := gb139) (o := .cells #[.int .u64 a0_0, .int .u64 (Go.bits .andNot .u64 a0_1 1)] 25 (0, 0)) (by (with_reducible repeat (first | refine blk_drewN ?_ _ | refine blk_drew ?_ | refine blk_alloc ?_ _)); exact BK139.out) hb); have n2_ := Aside0.mk (blk_below (g := gb140) (o := .cells #[.int .u64 a0_0, .int .u64 (Go.bits .or .u64 a0_1 1)] 25 (0, 0)) (by (with_reducible repeat (first | refine blk_drewN ?_ _ | refine blk_drew ?_ | refine blk_alloc ?_ _)); exact BK140.out) hb); have n3_ := Aside0.mk (below_step (by repeat (first | (with_reducible first | exact HB.out | apply below_alloc | apply pw_below_drewN | apply below_drew1 | refine below_set ?_ GE138.out | refine below_set ?_ GE139.out | refine below_set ?_ GE140.out) | exact HB.out)) hb); clear BK138; clear BK139; clear BK140; clear HB; have BK138 := n0_; have BK139 := n1_; have BK140 := n2_; have HB := n3_; clear n0_ n1_ n2_ n3_; (try clear hb); (try clear hb2); (try clear hk); (try clear hi)) | ((with_reducible refine gate_callee (f := 4) rfl ?_); refine goesL_ (some 39) rfl rfl Try.func4 (by kernel_rfl) rfl #[.agg #[.int .u64 t145, .int .u64 t146]] rfl (by (try simp only [List.map_toArray, List.map_cons, List.map_nil]); first | done | rfl | (simp only [List.length_drop, List.length_take]; rfl)) ?_; (with_reducible refine (impl_Coverage.calls t145 t146 t147 t148 _ A8.out).mono ?_); rintro e w99 ⟨rfl, hb⟩; refine ⟨_, rfl, ?_⟩; have n0_ := Aside0.mk (blk_below (g := gb138) (o := .cells #[.int .u64 a0_0, .int .u64 a0_1] 25 (0, 0)) (by (with_reducible repeat (first | refine blk_drewN ?_ _ | refine blk_drew ?_ | refine blk_alloc ?_ _)); exact BK138.out) hb); have n1_ := Aside0.mk (blk_below (g := gb139) (o := .cells #[.int .u64 a0_0, .int .u64 (Go.bits .andNot .u64 a0_1 1)] 25 (0, 0)) (by (with_reducible repeat (first | refine blk_drewN ?_ _ | refine blk_drew ?_ | refine blk_alloc ?_ _)); exact BK139.out) hb); have n2_ := Aside0.mk (blk_below (g := gb140) (o := .cells #[.int .u64 a0_0, .int .u64 (Go.bits .or .u64 a0_1 1)] 25 (0, 0)) (by (with_reducible repeat (first | refine blk_drewN ?_ _ | refine blk_drew ?_ | refine blk_alloc ?_ _)); exact BK140.out) hb); have n3_ := Aside0.mk (below_step (by repeat (first | (with_reducible first | exact HB.out | apply below_alloc | apply pw_below_drewN | apply below_drew1 | refine below_set ?_ GE138.out | refine below_set ?_ GE139.out | refine below_set ?_ GE140.out) | exact HB.out)) hb); clear BK138; clear BK139; clear BK140; clear HB; have BK138 := n0_; have BK139 := n1_; have BK140 := n2_; have HB := n3_; clear n0_ n1_ n2_ n3_; (try clear hb); (try clear hb2); (try clear hk); (try clear hi)))
        have n0_ := Aside0.mk (blk_drew BK138.out)
        have n1_ := Aside0.mk (blk_drew BK139.out)
        have n2_ := Aside0.mk (blk_drew BK140.out)
        have n3_ := Aside0.mk (below_drew1 HB.out)
        clear BK138
        clear BK139
        clear BK140
        clear HB
        have BK138 := n0_
        have BK139 := n1_
        have BK140 := n2_
        have HB := n3_
        clear n0_ n1_ n2_ n3_
        refine start_ (n := 29) (S := fun w' => True) (ds := []) #[false, false, false, false, false, false, false, false, false, false, false, false, false, false, false, false, false, false, false, false, false, false, false, false, false, false, false, false, false] (by kernel_rfl) rfl rfl trivial (fun hHeld => ?_); refine with_tabW lawFC.tab7 lawFC.bits7 (fun HT_ HW_ => ?_)
        generalize w99.drew = w100 at BK138 BK139 BK140 HB hHeld ⊢
        refine pure_ (i := 0) (N := some 42) (v := ?_) (a' := ?_) #[true, false, false, false, false, false, false, false, false, false, false, false, false, false, false, false, false, false, false, false, false, false, false, false, false, false, false, false, false] rfl rfl (any_of HT_.out (by kernel_rfl)) (fun _ _ _ h => h) (Or.inl ⟨by rfl, ?_⟩) ?_ ?_
        rotate_left
        · intro w'
          go_simp
          with_reducible rfl
        rotate_left
        · simp only [Act.put, List.setIfInBounds_toArray, List.set_cons_zero, List.set_cons_succ]
          rfl
        refine pure_ (i := 1) (N := some 43) (v := ?_) (a' := ?_) #[true, true, false, false, false, false, false, false, false, false, false, false, false, false, false, false, false, false, false, false, false, false, false, false, false, false, false, false, false] rfl rfl (any_of HT_.out (by kernel_rfl)) (fun _ _ _ h => h) (Or.inl ⟨by rfl, ?_⟩) ?_ ?_
        rotate_left
        · intro w'
          go_simp
          with_reducible rfl
        rotate_left
        · simp only [Act.put, List.setIfInBounds_toArray, List.set_cons_zero, List.set_cons_succ]
          rfl
        refine pure_ (i := 2) (N := some 44) (v := ?_) (a' := ?_) #[true, true, true, false, false, false, false, false, false, false, false, false, false, false, false, false, false, false, false, false, false, false, false, false, false, false, false, false, false] rfl rfl (any_of HT_.out (by kernel_rfl)) (fun _ _ _ h => h) (Or.inl ⟨by rfl, ?_⟩) ?_ ?_
        rotate_left
        · intro w'
          go_simp
          with_reducible rfl
        rotate_left
        · simp only [Act.put, List.setIfInBounds_toArray, List.set_cons_zero, List.set_cons_succ]
          rfl
        refine pure_ (i := 3) (N := some 45) (v := ?_) (a' := ?_) #[true, true, true, true, false, false, false, false, false, false, false, false, false, false, false, false, false, false, false, false, false, false, false, false, false, false, false, false, false] rfl rfl (any_of HT_.out (by kernel_rfl)) (fun _ _ _ h => h) (Or.inl ⟨by rfl, ?_⟩) ?_ ?_
        rotate_left
        · intro w'
          go_simp
          with_reducible rfl
        rotate_left
        · simp only [Act.put, List.setIfInBounds_toArray, List.set_cons_zero, List.set_cons_succ]
          rfl
        refine pure_ (i := 4) (N := some 46) (v := ?_) (a' := ?_) #[true, true, true, true, true, false, false, false, false, false, false, false, false, false, false, false, false, false, false, false, false, false, false, false, false, false, false, false, false] rfl rfl (any_of HT_.out (by kernel_rfl)) (fun _ _ _ h => h) (Or.inl ⟨by rfl, ?_⟩) ?_ ?_
        rotate_left
        · intro w'
          go_simp
          with_reducible rfl
        rotate_left
        · simp only [Act.put, List.setIfInBounds_toArray, List.set_cons_zero, List.set_cons_succ]
          rfl
        refine pure_ (i := 5) (N := some 47) (v := ?_) (a' := ?_) #[true, true, true, true, true, true, false, false, false, false, false, false, false, false, false, false, false, false, false, false, false, false, false, false, false, false, false, false, false] rfl rfl (any_of HT_.out (by kernel_rfl)) (fun _ _ _ h => h) (Or.inl ⟨by rfl, ?_⟩) ?_ ?_
        rotate_left
        · intro w'
          go_simp
          with_reducible rfl
        rotate_left
        · simp only [Act.put, List.setIfInBounds_toArray, List.set_cons_zero, List.set_cons_succ]
          rfl
        refine pure_ (i := 6) (N := some 48) (v := ?_) (a' := ?_) #[true, true, true, true, true, true, true, false, false, false, false, false, false, false, false, false, false, false, false, false, false, false, false, false, false, false, false, false, false] rfl rfl (any_of HT_.out (by kernel_rfl)) (fun _ _ _ h => h) (Or.inl ⟨by rfl, ?_⟩) ?_ ?_
        rotate_left
        · intro w'
          go_simp
          with_reducible rfl
        rotate_left
        · simp only [Act.put, List.setIfInBounds_toArray, List.set_cons_zero, List.set_cons_succ]
          rfl
        refine pure_ (i := 7) (N := some 49) (v := ?_) (a' := ?_) #[true, true, true, true, true, true, true, true, false, false, false, false, false, false, false, false, false, false, false, false, false, false, false, false, false, false, false, false, false] rfl rfl (any_of HT_.out (by kernel_rfl)) (fun _ _ _ h => h) (Or.inl ⟨by rfl, ?_⟩) ?_ ?_
        rotate_left
        · intro w'
          go_simp
          with_reducible rfl
        rotate_left
        · simp only [Act.put, List.setIfInBounds_toArray, List.set_cons_zero, List.set_cons_succ]
          rfl
        refine pure_ (i := 8) (N := some 50) (v := ?_) (a' := ?_) #[true, true, true, true, true, true, true, true, true, false, false, false, false, false, false, false, false, false, false, false, false, false, false, false, false, false, false, false, false] rfl rfl (any_of HT_.out (by kernel_rfl)) (fun _ _ _ h => h) (Or.inl ⟨by rfl, ?_⟩) ?_ ?_
        rotate_left
        · intro w'
          go_simp
          with_reducible rfl
        rotate_left
        · simp only [Act.put, List.setIfInBounds_toArray, List.set_cons_zero, List.set_cons_succ]
          rfl
        refine pure_ (i := 9) (N := some 51) (v := undef) (a' := ?_) #[true, true, true, true, true, true, true, true, true, true, false, false, false, false, false, false, false, false, false, false, false, false, false, false, false, false, false, false, false] rfl rfl (any_of HT_.out (by kernel_rfl)) (fun _ _ _ h => h) (Or.inr ⟨by rfl, rfl⟩) ?_ ?_
        rotate_left
        · simp only [Act.put, List.setIfInBounds_toArray, List.set_cons_zero, List.set_cons_succ]
          rfl
        refine pure_ (i := 10) (N := some 52) (v := undef) (a' := ?_) #[true, true, true, true, true, true, true, true, true, true, true, false, false, false, false, false, false, false, false, false, false, false, false, false, false, false, false, false, false] rfl rfl (any_of HT_.out (by kernel_rfl)) (fun _ _ _ h => h) (Or.inr ⟨by rfl, rfl⟩) ?_ ?_
        rotate_left
        · simp only [Act.put, List.setIfInBounds_toArray, List.set_cons_zero, List.set_cons_succ]
          rfl
        refine pure_ (i := 11) (N := some 53) (v := undef) (a' := ?_) #[true, true, true, true, true, true, true, true, true, true, true, true, false, false, false, false, false, false, false, false, false, false, false, false, false, false, false, false, false] rfl rfl (any_of HT_.out (by kernel_rfl)) (fun _ _ _ h => h) (Or.inr ⟨by rfl, rfl⟩) ?_ ?_
        rotate_left
        · simp only [Act.put, List.setIfInBounds_toArray, List.set_cons_zero, List.set_cons_succ]
          rfl
        refine pure_ (i := 12) (N := some 54) (v := ?_) (a' := ?_) #[true, true, true, true, true, true, true, true, true, true, true, true, true, false, false, false, false, false, false, false, false, false, false, false, false, false, false, false, false] rfl rfl (any_of HT_.out (by kernel_rfl)) (fun _ _ _ h => h) (Or.inl ⟨by rfl, ?_⟩) ?_ ?_
        rotate_left
        · intro w'
          go_simp
          with_reducible rfl
        rotate_left
        · simp only [Act.put, List.setIfInBounds_toArray, List.set_cons_zero, List.set_cons_succ]
          rfl
        refine pure_ (i := 13) (N := some 55) (v := ?_) (a' := ?_) #[true, true, true, true, true, true, true, true, true, true, true, true, true, true, false, false, false, false, false, false, false, false, false, false, false, false, false, false, false] rfl rfl (any_of HT_.out (by kernel_rfl)) (fun _ _ _ h => h) (Or.inl ⟨by rfl, ?_⟩) ?_ ?_
        rotate_left
        · intro w'
          go_simp
          with_reducible rfl
        rotate_left
        · simp only [Act.put, List.setIfInBounds_toArray, List.set_cons_zero, List.set_cons_succ]
          rfl
        refine pure_ (i := 14) (N := some 56) (v := undef) (a' := ?_) #[true, true, true, true, true, true, true, true, true, true, true, true, true, true, true, false, false, false, false, false, false, false, false, false, false, false, false, false, false] rfl rfl (any_of HT_.out (by kernel_rfl)) (fun _ _ _ h => h) (Or.inr ⟨by rfl, rfl⟩) ?_ ?_
        rotate_left
        · simp only [Act.put, List.setIfInBounds_toArray, List.set_cons_zero, List.set_cons_succ]
          rfl
        refine pure_ (i := 15) (N := some 57) (v := undef) (a' := ?_) #[true, true, true, true, true, true, true, true, true, true, true, true, true, true, true, true, false, false, false, false, false, false, false, false, false, false, false, false, false] rfl rfl (any_of HT_.out (by kernel_rfl)) (fun _ _ _ h => h) (Or.inr ⟨by rfl, rfl⟩) ?_ ?_
        rotate_left
        · simp only [Act.put, List.setIfInBounds_toArray, List.set_cons_zero, List.set_cons_succ]
          rfl
        refine pure_ (i := 16) (N := some 58) (v := undef) (a' := ?_) #[true, true, true, true, true, true, true, true, true, true, true, true, true, true, true, true, true, false, false, false, false, false, false, false, false, false, false, false, false] rfl rfl (any_of HT_.out (by kernel_rfl)) (fun _ _ _ h => h) (Or.inr ⟨by rfl, rfl⟩) ?_ ?_
        rotate_left
        · simp only [Act.put, List.setIfInBounds_toArray, List.set_cons_zero, List.set_cons_succ]
          rfl
        refine pure_ (i := 17) (N := some 59) (v := undef) (a' := ?_) #[true, true, true, true, true, true, true, true, true, true, true, true, true, true, true, true, true, true, false, false, false, false, false, false, false, false, false, false, false] rfl rfl (any_of HT_.out (by kernel_rfl)) (fun _ _ _ h => h) (Or.inr ⟨by rfl, rfl⟩) ?_ ?_
        rotate_left
        · simp only [Act.put, List.setIfInBounds_toArray, List.set_cons_zero, List.set_cons_succ]
          rfl
        refine pure_ (i := 18) (N := some 60) (v := undef) (a' := ?_) #[true, true, true, true, true, true, true, true, true, true, true, true, true, true, true, true, true, true, true, false, false, false, false, false, false, false, false, false, false] rfl rfl (any_of HT_.out (by kernel_rfl)) (fun _ _ _ h => h) (Or.inr ⟨by rfl, rfl⟩) ?_ ?_
        rotate_left
        · simp only [Act.put, List.setIfInBounds_toArray, List.set_cons_zero, List.set_cons_succ]
          rfl
        refine pure_ (i := 19) (N := some 61) (v := undef) (a' := ?_) #[true, true, true, true, true, true, true, true, true, true, true, true, true, true, true, true, true, true, true, true, false, false, false, false, false, false, false, false, false] rfl rfl (any_of HT_.out (by kernel_rfl)) (fun _ _ _ h => h) (Or.inr ⟨by rfl, rfl⟩) ?_ ?_
        rotate_left
        · simp only [Act.put, List.setIfInBounds_toArray, List.set_cons_zero, List.set_cons_succ]
          rfl
        refine pure_ (i := 20) (N := some 62) (v := undef) (a' := ?_) #[true, true, true, true, true, true, true, true, true, true, true, true, true, true, true, true, true, true, true, true, true, false, false, false, false, false, false, false, false] rfl rfl (any_of HT_.out (by kernel_rfl)) (fun _ _ _ h => h) (Or.inr ⟨by rfl, rfl⟩) ?_ ?_
        rotate_left
        · simp only [Act.put, List.setIfInBounds_toArray, List.set_cons_zero, List.set_cons_succ]
          rfl
        refine pure_ (i := 21) (N := some 63) (v := ?_) (a' := ?_) #[true, true, true, true, true, true, true, true, true, true, true, true, true, true, true, true, true, true, true, true, true, true, false, false, false, false, false, false, false] rfl rfl (any_of HT_.out (by kernel_rfl)) (fun _ _ _ h => h) (Or.inl ⟨by rfl, ?_⟩) ?_ ?_
        rotate_left
        · intro w'
          go_simp
          with_reducible rfl
        rotate_left
        · simp only [Act.put, List.setIfInBounds_toArray, List.set_cons_zero, List.set_cons_succ]
          rfl
        refine pure_ (i := 22) (N := some 64) (v := ?_) (a' := ?_) #[true, true, true, true, true, true, true, true, true, true, true, true, true, true, true, true, true, true, true, true, true, true, true, false, false, false, false, false, false] rfl rfl (any_of HT_.out (by kernel_rfl)) (fun _ _ _ h => h) (Or.inl ⟨by rfl, ?_⟩) ?_ ?_
        rotate_left
        · intro w'
          go_simp
          with_reducible rfl
        rotate_left
        · simp only [Act.put, List.setIfInBounds_toArray, List.set_cons_zero, List.set_cons_succ]
          rfl
        refine pure_ (i := 23) (N := some 65) (v := undef) (a' := ?_) #[true, true, true, true, true, true, true, true, true, true, true, true, true, true, true, true, true, true, true, true, true, true, true, true, false, false, false, false, false] rfl rfl (any_of HT_.out (by kernel_rfl)) (fun _ _ _ h => h) (Or.inr ⟨by rfl, rfl⟩) ?_ ?_
        rotate_left
        · simp only [Act.put, List.setIfInBounds_toArray, List.set_cons_zero, List.set_cons_succ]
          rfl
        refine pure_ (i := 24) (N := some 66) (v := undef) (a' := ?_) #[true, true, true, true, true, true, true, true, true, true, true, true, true, true, true, true, true, true, true, true, true, true, true, true, true, false, false, false, false] rfl rfl (any_of HT_.out (by kernel_rfl)) (fun _ _ _ h => h) (Or.inr ⟨by rfl, rfl⟩) ?_ ?_
        rotate_left
        · simp only [Act.put, List.setIfInBounds_toArray, List.set_cons_zero, List.set_cons_succ]
          rfl
        refine pure_ (i := 25) (N := some 67) (v := undef) (a' := ?_) #[true, true, true, true, true, true, true, true, true, true, true, true, true, true, true, true, true, true, true, true, true, true, true, true, true, true, false, false, false] rfl rfl (any_of HT_.out (by kernel_rfl)) (fun _ _ _ h => h) (Or.inr ⟨by rfl, rfl⟩) ?_ ?_
        rotate_left
        · simp only [Act.put, List.setIfInBounds_toArray, List.set_cons_zero, List.set_cons_succ]
          rfl
        refine pure_ (i := 26) (N := some 68) (v := undef) (a' := ?_) #[true, true, true, true, true, true, true, true, true, true, true, true, true, true, true, true, true, true, true, true, true, true, true, true, true, true, true, false, false] rfl rfl (any_of HT_.out (by kernel_rfl)) (fun _ _ _ h => h) (Or.inr ⟨by rfl, rfl⟩) ?_ ?_
        rotate_left
        · simp only [Act.put, List.setIfInBounds_toArray, List.set_cons_zero, List.set_cons_succ]
          rfl
        refine pure_ (i := 27) (N := some 69) (v := ?_) (a' := ?_) #[true, true, true, true, true, true, true, true, true, true, true, true, true, true, true, true, true, true, true, true, true, true, true, true, true, true, true, true, false] rfl rfl (any_of HT_.out (by kernel_rfl)) (fun _ _ _ h => h) (Or.inl ⟨by rfl, ?_⟩) ?_ ?_
        rotate_left
        · intro w'
          go_simp
          with_reducible rfl
        rotate_left
        · simp only [Act.put, List.setIfInBounds_toArray, List.set_cons_zero, List.set_cons_succ]
          rfl
        refine pure_ (i := 28) (N := some 2) (v := ?_) (a' := ?_) #[true, true, true, true, true, true, true, true, true, true, true, true, true, true, true, true, true, true, true, true, true, true, true, true, true, true, true, true, true] rfl rfl (any_of HT_.out (by kernel_rfl)) (fun _ _ _ h => h) (Or.inl ⟨by rfl, ?_⟩) ?_ ?_
        rotate_left
        · intro w'
          go_simp
          with_reducible rfl
        rotate_left
        · simp only [Act.put, List.setIfInBounds_toArray, List.set_cons_zero, List.set_cons_succ]
          rfl
        refine done_ (done_of HT_.out (by kernel_rfl)) ?_
        try go_wp2
        go_ret
        exact ⟨by first | rfl | (simp [errW_none, errW_some] <;> rfl) | (simp [*, errW_none, errW_some] <;> rfl), by repeat (first | (with_reducible first | exact HB.out | apply below_alloc | apply pw_below_drewN | apply below_drew1 | refine below_set ?_ GE138.out | refine below_set ?_ GE139.out | refine below_set ?_ GE140.out) | exact HB.out)⟩
    · rw [if_neg c9] at H
      have c9b0 : (t142 == t143) = false := beq_eq_false_iff_ne.mpr c9
      have c9b1 : (t142 != t143) = true := bne_iff_ne.mpr c9
      obtain rfl := Option.some.inj H
      go_enter Try.func3, Try.ntmps3
      try go_wp2_with (first | ((with_reducible refine gate_dst (N := 1) rfl ?_); refine box_event ?hg (N := 1) ?hd (cs := #[.int .u64 a0_0, .int .u64 a0_1]) (t := 25) ?hr ?_; (case hd => rfl); (case hg => rfl); (case hr => first | (go_simp; done) | (go_simp; rfl)); intro gb138 hg w101 hbox hb; have n0_ := Aside0.mk (below_step (by repeat (first | (with_reducible first | exact HB.out | apply below_alloc | apply pw_below_drewN | apply below_drew1) | exact HB.out)) hb); have n1_ := Aside0.mk (hbox); have n2_ := Aside0.mk ((by rw [hg]; exact (below_size (by repeat (first | (with_reducible first | exact HB.out | apply below_alloc | apply pw_below_drewN | apply below_drew1) | exact HB.out))) : w.heap.size ≤ gb138)); have n3_ := Aside0.mk ((by rw [hg]; exact (below_size (by repeat (first | (with_reducible first | exact HB.out | apply below_alloc | apply pw_below_drewN | apply below_drew1) | exact HB.out))) : w.heap.size ≤ gb138)); clear HB; have HB := n0_; have BK138 := n1_; have GW138 := n2_; have GE138 := n3_; clear n0_ n1_ n2_ n3_; clear hb hbox hg; have hcz102_0 : w101.cell? ⟨gb138, 0, none⟩ = some (.int .u64 a0_0) := (blk_cell BK138.out 0).trans rfl; have hcz102_1 : w101.cell? ⟨gb138, 1, none⟩ = some (.int .u64 a0_1) := (blk_cell BK138.out 1).trans rfl; have hfz102_0 := blk_frozen BK138.out 0; have hfz102_1 := blk_frozen BK138.out 1))
      have n0_ := Aside0.mk (blk_drew BK138.out)
      have n1_ := Aside0.mk (below_drew1 HB.out)
      clear BK138
      clear HB
      have BK138 := n0_
      have HB := n1_
      clear n0_ n1_
      refine start_ (n := 16) (S := fun w' => w'.cell? ⟨gb138, 0, none⟩ = some (.int .u64 a0_0) ∧ w'.cell? ⟨gb138, 1, none⟩ = some (.int .u64 a0_1)) (ds := []) #[false, false, false, false, false, false, false, false, false, false, false, false, false, false, false, false] (by kernel_rfl) rfl rfl ⟨(blk_cell BK138.out 0).trans rfl, (blk_cell BK138.out 1).trans rfl⟩ (fun hHeld => ?_); refine with_tabW lawFC.tab3 lawFC.bits3 (fun HT_ HW_ => ?_)
      generalize w101.drew = w103 at BK138 HB hHeld ⊢
      refine pure_ (i := 0) (N := some 14) (v := ?_) (a' := ?_) #[true, false, false, false, false, false, false, false, false, false, false, false, false, false, false, false] rfl rfl (any_of HT_.out (by kernel_rfl)) (fun _ _ _ h => h) (Or.inl ⟨by rfl, ?_⟩) ?_ ?_
      rotate_left
      · intro w'
        go_simp
        with_reducible rfl
      rotate_left
      · simp only [Act.put, List.setIfInBounds_toArray, List.set_cons_zero, List.set_cons_succ]
        rfl
      refine pure_ (i := 2) (N := some 16) (v := ?_) (a' := ?_) #[true, false, true, false, false, false, false, false, false, false, false, false, false, false, false, false] rfl rfl (any_of HT_.out (by kernel_rfl)) (fun _ _ _ h => h) (Or.inl ⟨by rfl, ?_⟩) ?_ ?_
      rotate_left
      · intro w'
        go_simp
        with_reducible rfl
      rotate_left
      · simp only [Act.put, List.setIfInBounds_toArray, List.set_cons_zero, List.set_cons_succ]
        rfl
      refine pure_ (i := 6) (N := some 20) (v := ?_) (a' := ?_) #[true, false, true, false, false, false, true, false, false, false, false, false, false, false, false, false] rfl rfl (any_of HT_.out (by kernel_rfl)) (fun _ _ _ h => h) (Or.inl ⟨by rfl, ?_⟩) ?_ ?_
      rotate_left
      · intro w'
        go_simp
        with_reducible rfl
      rotate_left
      · simp only [Act.put, List.setIfInBounds_toArray, List.set_cons_zero, List.set_cons_succ]
        rfl
      refine pure_ (i := 8) (N := some 22) (v := ?_) (a' := ?_) #[true, false, true, false, false, false, true, false, true, false, false, false, false, false, false, false] rfl rfl (any_of HT_.out (by kernel_rfl)) (fun _ _ _ h => h) (Or.inl ⟨by rfl, ?_⟩) ?_ ?_
      rotate_left
      · intro w'
        go_simp
        with_reducible rfl
      rotate_left
      · simp only [Act.put, List.setIfInBounds_toArray, List.set_cons_zero, List.set_cons_succ]
        rfl
      refine take_ (i := 1) (N := some 15) (v := ?_) (a' := ?_) #[true, true, true, false, false, false, true, false, true, false, false, false, false, false, false, false] rfl rfl (take_ofW HT_.out HW_.out (by kernel_rfl)) (fun _ _ _ h => h) (Or.inl ⟨by rfl, ?_⟩) hHeld ?_ ?_
      rotate_left
      · rintro w' ⟨s0, s1⟩
        go_simp
        with_reducible rfl
      rotate_left
      · simp only [Act.put, List.setIfInBounds_toArray, List.set_cons_zero, List.set_cons_succ]
        rfl
      refine take_ (i := 3) (N := some 17) (v := ?_) (a' := ?_) #[true, true, true, true, false, false, true, false, true, false, false, false, false, false, false, false] rfl rfl (take_ofW HT_.out HW_.out (by kernel_rfl)) (fun _ _ _ h => h) (Or.inl ⟨by rfl, ?_⟩) hHeld ?_ ?_
      rotate_left
      · rintro w' ⟨s0, s1⟩
        go_simp
        with_reducible rfl
      rotate_left
      · simp only [Act.put, List.setIfInBounds_toArray, List.set_cons_zero, List.set_cons_succ]
        rfl
      refine pure_ (i := 4) (N := some 18) (v := ?_) (a' := ?_) #[true, true, true, true, true, false, true, false, true, false, false, false, false, false, false, false] rfl rfl (any_of HT_.out (by kernel_rfl)) (fun _ _ _ h => h) (Or.inl ⟨by rfl, ?_⟩) ?_ ?_
      rotate_left
      · intro w'
        go_simp
        with_reducible rfl
      rotate_left
      · simp only [Act.put, List.setIfInBounds_toArray, List.set_cons_zero, List.set_cons_succ]
        rfl
      refine pure_ (i := 5) (N := some 19) (v := ?_) (a' := ?_) #[true, true, true, true, true, true, true, false, true, false, false, false, false, false, false, false] rfl rfl (any_of HT_.out (by kernel_rfl)) (fun _ _ _ h => h) (Or.inl ⟨by rfl, ?_⟩) ?_ ?_
      rotate_left
      · intro w'
        go_simp
        with_reducible rfl
      rotate_left
      · simp only [Act.put, List.setIfInBounds_toArray, List.set_cons_zero, List.set_cons_succ]
        rfl
      refine take_ (i := 7) (N := some 21) (v := ?_) (a' := ?_) #[true, true, true, true, true, true, true, true, true, false, false, false, false, false, false, false] rfl rfl (take_ofW HT_.out HW_.out (by kernel_rfl)) (fun _ _ _ h => h) (Or.inl ⟨by rfl, ?_⟩) hHeld ?_ ?_
      rotate_left
      · rintro w' ⟨s0, s1⟩
        go_simp
        with_reducible rfl
      rotate_left
      · simp only [Act.put, List.setIfInBounds_toArray, List.set_cons_zero, List.set_cons_succ]
        rfl
      refine take_ (i := 9) (N := some 23) (v := ?_) (a' := ?_) #[true, true, true, true, true, true, true, true, true, true, false, false, false, false, false, false] rfl rfl (take_ofW HT_.out HW_.out (by kernel_rfl)) (fun _ _ _ h => h) (Or.inl ⟨by rfl, ?_⟩) hHeld ?_ ?_
      rotate_left
      · rintro w' ⟨s0, s1⟩
        go_simp
        with_reducible rfl
      rotate_left
      · simp only [Act.put, List.setIfInBounds_toArray, List.set_cons_zero, List.set_cons_succ]
        rfl
      refine pure_ (i := 10) (N := some 24) (v := ?_) (a' := ?_) #[true, true, true, true, true, true, true, true, true, true, true, false, false, false, false, false] rfl rfl (any_of HT_.out (by kernel_rfl)) (fun _ _ _ h => h) (Or.inl ⟨by rfl, ?_⟩) ?_ ?_
      rotate_left
      · intro w'
        go_simp
        with_reducible rfl
      rotate_left
      · simp only [Act.put, List.setIfInBounds_toArray, List.set_cons_zero, List.set_cons_succ]
        rfl
      refine pure_ (i := 11) (N := some 25) (v := ?_) (a' := ?_) #[true, true, true, true, true, true, true, true, true, true, true, true, false, false, false, false] rfl rfl (any_of HT_.out (by kernel_rfl)) (fun _ _ _ h => h) (Or.inl ⟨by rfl, ?_⟩) ?_ ?_
      rotate_left
      · intro w'
        go_simp
        with_reducible rfl
      rotate_left
      · simp only [Act.put, List.setIfInBounds_toArray, List.set_cons_zero, List.set_cons_succ]
        rfl
      refine join_ (σ := Nat × Nat) 2 #[true, true, true, true, true, true, true, true, true, true, true, true, true, true, false, false] (fun s_ => [(3, .pointer (some ⟨s_.1, 0, none⟩)), (4, .pointer (some ⟨s_.2, 0, none⟩))]) (fun s_ w' => (w'.cell? ⟨gb138, 0, none⟩ = some (.int .u64 a0_0) ∧ w'.cell? ⟨gb138, 1, none⟩ = some (.int .u64 a0_1)) ∧ (w'.heap[gb138]? = some (.cells #[.int .u64 a0_0, .int .u64 a0_1] 25 (0, 0))) ∧ (w'.heap[s_.1]? = some (.cells #[.int .u64 0, .int .u64 0] 25 (0, 0))) ∧ (w'.heap[s_.2]? = some (.cells #[.int .u64 0, .int .u64 0] 25 (0, 0))) ∧ (w.heap.size ≤ s_.1) ∧ (w.heap.size ≤ s_.1) ∧ (gb138 ≠ s_.1) ∧ (s_.1 ≠ gb138) ∧ (s_.2 ≠ s_.1) ∧ (s_.1 ≠ s_.2) ∧ (w.heap.size ≤ s_.2) ∧ (w.heap.size ≤ s_.2) ∧ (gb138 ≠ s_.2) ∧ (s_.2 ≠ gb138) ∧ (Below w.heap.size w w')) ?_ ?_
      rotate_left
      · intro hCont
        refine two_ (i := 12) (j := 13) (Ni := some 3) (Nj := some 4) #[true, true, true, true, true, true, true, true, true, true, true, true, true, false, false, false] #[true, true, true, true, true, true, true, true, true, true, true, true, false, true, false, false] rfl rfl rfl rfl (two_of HT_.out (by kernel_rfl)) (by decide) (by decide) (fun K hK => ?_) (fun K hK => ?_)
        · skip
          refine box_step ?hg (N := 3) ?hd (cs := #[.int .u64 0, .int .u64 0]) (t := 25) ?hr ?_; (case hd => rfl); (case hg => rfl); (case hr => first | (go_simp; done) | (go_simp; rfl))
          intro gb139 hg w104 hbox hb
          have n0_ := Aside0.mk (blk_below (g := gb138) (o := .cells #[.int .u64 a0_0, .int .u64 a0_1] 25 (0, 0)) (by (with_reducible repeat (first | refine blk_drewN ?_ _ | refine blk_drew ?_ | refine blk_alloc ?_ _)); exact BK138.out) hb)
          have n1_ := Aside0.mk (below_step (by repeat (first | (with_reducible first | exact HB.out | apply below_alloc | apply pw_below_drewN | apply below_drew1 | refine below_set ?_ GE138.out) | exact HB.out)) hb)
          have n2_ := Aside0.mk (hbox)
          have n3_ := Aside0.mk ((by rw [hg]; exact (below_size (by repeat (first | (with_reducible first | exact HB.out | apply below_alloc | apply pw_below_drewN | apply below_drew1 | refine below_set ?_ GE138.out) | exact HB.out))) : w.heap.size ≤ gb139))
          have n4_ := Aside0.mk ((by rw [hg]; exact (below_size (by repeat (first | (with_reducible first | exact HB.out | apply below_alloc | apply pw_below_drewN | apply below_drew1 | refine below_set ?_ GE138.out) | exact HB.out))) : w.heap.size ≤ gb139))
          have n5_ := Aside0.mk ((by rw [hg]; exact Nat.ne_of_lt (blk_lt (g := gb138) (o := .cells #[.int .u64 a0_0, .int .u64 a0_1] 25 (0, 0)) (by (with_reducible repeat (first | refine blk_drewN ?_ _ | refine blk_drew ?_ | refine blk_alloc ?_ _)); exact BK138.out)) : gb138 ≠ gb139))
          have n6_ := Aside0.mk ((by rw [hg]; exact Nat.ne_of_gt (blk_lt (g := gb138) (o := .cells #[.int .u64 a0_0, .int .u64 a0_1] 25 (0, 0)) (by (with_reducible repeat (first | refine blk_drewN ?_ _ | refine blk_drew ?_ | refine blk_alloc ?_ _)); exact BK138.out)) : gb139 ≠ gb138))
          clear BK138
          clear HB
          have BK138 := n0_
          have HB := n1_
          have BK139 := n2_
          have GW139 := n3_
          have GE139 := n4_
          have NB138_139 := n5_
          have NB139_138 := n6_
          clear n0_ n1_ n2_ n3_ n4_ n5_ n6_
          clear hb hbox hg
          refine hK.out _ _ ⟨(blk_cell BK138.out 0).trans rfl, (blk_cell BK138.out 1).trans rfl⟩ (fun hHeld => ?_)
          clear hK K
          refine norm_ (a' := ?_) ?_ ?_
          rotate_left
          · show Act.put _ (some 3) _ = _
            simp only [Act.put, List.setIfInBounds_toArray, List.set_cons_zero, List.set_cons_succ]
            rfl
          refine one_ (i := 13) (N := some 4) #[true, true, true, true, true, true, true, true, true, true, true, true, true, true, false, false] rfl rfl (one_of HT_.out (by kernel_rfl)) (by decide) (fun K hK => ?_)
          refine box_step ?hg (N := 4) ?hd (cs := #[.int .u64 0, .int .u64 0]) (t := 25) ?hr ?_; (case hd => rfl); (case hg => rfl); (case hr => first | (go_simp; done) | (go_simp; rfl))
          intro gb140 hg w105 hbox hb
          have n0_ := Aside0.mk (blk_below (g := gb138) (o := .cells #[.int .u64 a0_0, .int .u64 a0_1] 25 (0, 0)) (by (with_reducible repeat (first | refine blk_drewN ?_ _ | refine blk_drew ?_ | refine blk_alloc ?_ _)); exact BK138.out) hb)
          have n1_ := Aside0.mk (blk_below (g := gb139) (o := .cells #[.int .u64 0, .int .u64 0] 25 (0, 0)) (by (with_reducible repeat (first | refine blk_drewN ?_ _ | refine blk_drew ?_ | refine blk_alloc ?_ _)); exact BK139.out) hb)
          have n2_ := Aside0.mk (below_step (by repeat (first | (with_reducible first | exact HB.out | apply below_alloc | apply pw_below_drewN | apply below_drew1 | refine below_set ?_ GE138.out | refine below_set ?_ GE139.out) | exact HB.out)) hb)
          have n3_ := Aside0.mk (hbox)
          have n4_ := Aside0.mk ((by rw [hg]; exact (below_size (by repeat (first | (with_reducible first | exact HB.out | apply below_alloc | apply pw_below_drewN | apply below_drew1 | refine below_set ?_ GE138.out | refine below_set ?_ GE139.out) | exact HB.out))) : w.heap.size ≤ gb140))
          have n5_ := Aside0.mk ((by rw [hg]; exact (below_size (by repeat (first | (with_reducible first | exact HB.out | apply below_alloc | apply pw_below_drewN | apply below_drew1 | refine below_set ?_ GE138.out | refine below_set ?_ GE139.out) | exact HB.out))) : w.heap.size ≤ gb140))
          have n6_ := Aside0.mk ((by rw [hg]; exact Nat.ne_of_lt (blk_lt (g := gb138) (o := .cells #[.int .u64 a0_0, .int .u64 a0_1] 25 (0, 0)) (by (with_reducible repeat (first | refine blk_drewN ?_ _ | refine blk_drew ?_ | refine blk_alloc ?_ _)); exact BK138.out)) : gb138 ≠ gb140))
          have n7_ := Aside0.mk ((by rw [hg]; exact Nat.ne_of_gt (blk_lt (g := gb138) (o := .cells #[.int .u64 a0_0, .int .u64 a0_1] 25 (0, 0)) (by (with_reducible repeat (first | refine blk_drewN ?_ _ | refine blk_drew ?_ | refine blk_alloc ?_ _)); exact BK138.out)) : gb140 ≠ gb138))
          have n8_ := Aside0.mk ((by rw [hg]; exact Nat.ne_of_lt (blk_lt (g := gb139) (o := .cells #[.int .u64 0, .int .u64 0] 25 (0, 0)) (by (with_reducible repeat (first | refine blk_drewN ?_ _ | refine blk_drew ?_ | refine blk_alloc ?_ _)); exact BK139.out)) : gb139 ≠ gb140))
          have n9_ := Aside0.mk ((by rw [hg]; exact Nat.ne_of_gt (blk_lt (g := gb139) (o := .cells #[.int .u64 0, .int .u64 0] 25 (0, 0)) (by (with_reducible repeat (first | refine blk_drewN ?_ _ | refine blk_drew ?_ | refine blk_alloc ?_ _)); exact BK139.out)) : gb140 ≠ gb139))
          clear BK138
          clear BK139
          clear HB
          have BK138 := n0_
          have BK139 := n1_
          have HB := n2_
          have BK140 := n3_
          have GW140 := n4_
          have GE140 := n5_
          have NB138_140 := n6_
          have NB140_138 := n7_
          have NB139_140 := n8_
          have NB140_139 := n9_
          clear n0_ n1_ n2_ n3_ n4_ n5_ n6_ n7_ n8_ n9_
          clear hb hbox hg
          refine hK.out _ _ ⟨(blk_cell BK138.out 0).trans rfl, (blk_cell BK138.out 1).trans rfl⟩ (fun hHeld => ?_)
          clear hK K
          refine norm_ (a' := ?_) ?_ ?_
          rotate_left
          · show Act.put _ (some 4) _ = _
            simp only [Act.put, List.setIfInBounds_toArray, List.set_cons_zero, List.set_cons_succ]
            rfl
          exact norm_ (by simp only [putAll, Act.put, List.setIfInBounds_toArray, List.set_cons_zero, List.set_cons_succ]) (hCont (gb139, gb140) _ ⟨hHeld, (by (with_reducible repeat (first | refine blk_drewN ?_ _ | refine blk_drew ?_ | refine blk_alloc ?_ _)); exact BK138.out), (by (with_reducible repeat (first | refine blk_drewN ?_ _ | refine blk_drew ?_ | refine blk_alloc ?_ _)); exact BK139.out), (by (with_reducible repeat (first | refine blk_drewN ?_ _ | refine blk_drew ?_ | refine blk_alloc ?_ _)); exact BK140.out), GW139.out, GE139.out, NB138_139.out, NB139_138.out, NB140_139.out, NB139_140.out, GW140.out, GE140.out, NB138_140.out, NB140_138.out, (by repeat (first | (with_reducible first | exact HB.out | apply below_alloc | apply pw_below_drewN | apply below_drew1 | refine below_set ?_ GE138.out | refine below_set ?_ GE139.out | refine below_set ?_ GE140.out) | exact HB.out))⟩)
        · skip
          refine box_step ?hg (N := 4) ?hd (cs := #[.int .u64 0, .int .u64 0]) (t := 25) ?hr ?_; (case hd => rfl); (case hg => rfl); (case hr => first | (go_simp; done) | (go_simp; rfl))
          intro gb140 hg w104 hbox hb
          have n0_ := Aside0.mk (blk_below (g := gb138) (o := .cells #[.int .u64 a0_0, .int .u64 a0_1] 25 (0, 0)) (by (with_reducible repeat (first | refine blk_drewN ?_ _ | refine blk_drew ?_ | refine blk_alloc ?_ _)); exact BK138.out) hb)
          have n1_ := Aside0.mk (below_step (by repeat (first | (with_reducible first | exact HB.out | apply below_alloc | apply pw_below_drewN | apply below_drew1 | refine below_set ?_ GE138.out) | exact HB.out)) hb)
          have n2_ := Aside0.mk (hbox)
          have n3_ := Aside0.mk ((by rw [hg]; exact (below_size (by repeat (first | (with_reducible first | exact HB.out | apply below_alloc | apply pw_below_drewN | apply below_drew1 | refine below_set ?_ GE138.out) | exact HB.out))) : w.heap.size ≤ gb140))
          have n4_ := Aside0.mk ((by rw [hg]; exact (below_size (by repeat (first | (with_reducible first | exact HB.out | apply below_alloc | apply pw_below_drewN | apply below_drew1 | refine below_set ?_ GE138.out) | exact HB.out))) : w.heap.size ≤ gb140))
          have n5_ := Aside0.mk ((by rw [hg]; exact Nat.ne_of_lt (blk_lt (g := gb138) (o := .cells #[.int .u64 a0_0, .int .u64 a0_1] 25 (0, 0)) (by (with_reducible repeat (first | refine blk_drewN ?_ _ | refine blk_drew ?_ | refine blk_alloc ?_ _)); exact BK138.out)) : gb138 ≠ gb140))
          have n6_ := Aside0.mk ((by rw [hg]; exact Nat.ne_of_gt (blk_lt (g := gb138) (o := .cells #[.int .u64 a0_0, .int .u64 a0_1] 25 (0, 0)) (by (with_reducible repeat (first | refine blk_drewN ?_ _ | refine blk_drew ?_ | refine blk_alloc ?_ _)); exact BK138.out)) : gb140 ≠ gb138))
          clear BK138
          clear HB
          have BK138 := n0_
          have HB := n1_
          have BK140 := n2_
          have GW140 := n3_
          have GE140 := n4_
          have NB138_140 := n5_
          have NB140_138 := n6_
          clear n0_ n1_ n2_ n3_ n4_ n5_ n6_
          clear hb hbox hg
          refine hK.out _ _ ⟨(blk_cell BK138.out 0).trans rfl, (blk_cell BK138.out 1).trans rfl⟩ (fun hHeld => ?_)
          clear hK K
          refine norm_ (a' := ?_) ?_ ?_
          rotate_left
          · show Act.put _ (some 4) _ = _
            simp only [Act.put, List.setIfInBounds_toArray, List.set_cons_zero, List.set_cons_succ]
            rfl
          refine one_ (i := 12) (N := some 3) #[true, true, true, true, true, true, true, true, true, true, true, true, true, true, false, false] rfl rfl (one_of HT_.out (by kernel_rfl)) (by decide) (fun K hK => ?_)
          refine box_step ?hg (N := 3) ?hd (cs := #[.int .u64 0, .int .u64 0]) (t := 25) ?hr ?_; (case hd => rfl); (case hg => rfl); (case hr => first | (go_simp; done) | (go_simp; rfl))
          intro gb139 hg w105 hbox hb
          have n0_ := Aside0.mk (blk_below (g := gb138) (o := .cells #[.int .u64 a0_0, .int .u64 a0_1] 25 (0, 0)) (by (with_reducible repeat (first | refine blk_drewN ?_ _ | refine blk_drew ?_ | refine blk_alloc ?_ _)); exact BK138.out) hb)
          have n1_ := Aside0.mk (blk_below (g := gb140) (o := .cells #[.int .u64 0, .int .u64 0] 25 (0, 0)) (by (with_reducible repeat (first | refine blk_drewN ?_ _ | refine blk_drew ?_ | refine blk_alloc ?_ _)); exact BK140.out) hb)
          have n2_ := Aside0.mk (below_step (by repeat (first | (with_reducible first | exact HB.out | apply below_alloc | apply pw_below_drewN | apply below_drew1 | refine below_set ?_ GE138.out | refine below_set ?_ GE140.out) | exact HB.out)) hb)
          have n3_ := Aside0.mk (hbox)
          have n4_ := Aside0.mk ((by rw [hg]; exact (below_size (by repeat (first | (with_reducible first | exact HB.out | apply below_alloc | apply pw_below_drewN | apply below_drew1 | refine below_set ?_ GE138.out | refine below_set ?_ GE140.out) | exact HB.out))) : w.heap.size ≤ gb139))
          have n5_ := Aside0.mk ((by rw [hg]; exact (below_size (by repeat (first | (with_reducible first | exact HB.out | apply below_alloc | apply pw_below_drewN | apply below_drew1 | refine below_set ?_ GE138.out | refine below_set ?_ GE140.out) | exact HB.out))) : w.heap.size ≤ gb139))
          have n6_ := Aside0.mk ((by rw [hg]; exact Nat.ne_of_lt (blk_lt (g := gb138) (o := .cells #[.int .u64 a0_0, .int .u64 a0_1] 25 (0, 0)) (by (with_reducible repeat (first | refine blk_drewN ?_ _ | refine blk_drew ?_ | refine blk_alloc ?_ _)); exact BK138.out)) : gb138 ≠ gb139))
          have n7_ := Aside0.mk ((by rw [hg]; exact Nat.ne_of_gt (blk_lt (g := gb138) (o := .cells #[.int .u64 a0_0, .int .u64 a0_1] 25 (0, 0)) (by (with_reducible repeat (first | refine blk_drewN ?_ _ | refine blk_drew ?_ | refine blk_alloc ?_ _)); exact BK138.out)) : gb139 ≠ gb138))
          have n8_ := Aside0.mk ((by rw [hg]; exact Nat.ne_of_lt (blk_lt (g := gb140) (o := .cells #[.int .u64 0, .int .u64 0] 25 (0, 0)) (by (with_reducible repeat (first | refine blk_drewN ?_ _ | refine blk_drew ?_ | refine blk_alloc ?_ _)); exact BK140.out)) : gb140 ≠ gb139))
          have n9_ := Aside0.mk ((by rw [hg]; exact Nat.ne_of_gt (blk_lt (g := gb140) (o := .cells #[.int .u64 0, .int .u64 0] 25 (0, 0)) (by (with_reducible repeat (first | refine blk_drewN ?_ _ | refine blk_drew ?_ | refine blk_alloc ?_ _)); exact BK140.out)) : gb139 ≠ gb140))
          clear BK138
          clear BK140
          clear HB
          have BK138 := n0_
          have BK140 := n1_
          have HB := n2_
          have BK139 := n3_
          have GW139 := n4_
          have GE139 := n5_
          have NB138_139 := n6_
          have NB139_138 := n7_
          have NB140_139 := n8_
          have NB139_140 := n9_
          clear n0_ n1_ n2_ n3_ n4_ n5_ n6_ n7_ n8_ n9_
          clear hb hbox hg
          refine hK.out _ _ ⟨(blk_cell BK138.out 0).trans rfl, (blk_cell BK138.out 1).trans rfl⟩ (fun hHeld => ?_)
          clear hK K
          refine norm_ (a' := ?_) ?_ ?_
          rotate_left
          · show Act.put _ (some 3) _ = _
            simp only [Act.put, List.setIfInBounds_toArray, List.set_cons_zero, List.set_cons_succ]
            rfl
          exact norm_ (by simp only [putAll, Act.put, List.setIfInBounds_toArray, List.set_cons_zero, List.set_cons_succ]) (hCont (gb139, gb140) _ ⟨hHeld, (by (with_reducible repeat (first | refine blk_drewN ?_ _ | refine blk_drew ?_ | refine blk_alloc ?_ _)); exact BK138.out), (by (with_reducible repeat (first | refine blk_drewN ?_ _ | refine blk_drew ?_ | refine blk_alloc ?_ _)); exact BK139.out), (by (with_reducible repeat (first | refine blk_drewN ?_ _ | refine blk_drew ?_ | refine blk_alloc ?_ _)); exact BK140.out), GW139.out, GE139.out, NB138_139.out, NB139_138.out, NB140_139.out, NB139_140.out, GW140.out, GE140.out, NB138_140.out, NB140_138.out, (by repeat (first | (with_reducible first | exact HB.out | apply below_alloc | apply pw_below_drewN | apply below_drew1 | refine below_set ?_ GE138.out | refine below_set ?_ GE140.out | refine below_set ?_ GE139.out) | exact HB.out))⟩)
      rintro ⟨gb139, gb140⟩ w106 ⟨hS_, h0_, h1_, h2_, h3_, h4_, h5_, h6_, h7_, h8_, h9_, h10_, h11_, h12_, h13_⟩
      have n0_ : Aside0 (w106.heap[gb138]? = some (.cells #[.int .u64 a0_0, .int .u64 a0_1] 25 (0, 0))) := ⟨h0_⟩
      have n1_ : Aside0 (w106.heap[gb139]? = some (.cells #[.int .u64 0, .int .u64 0] 25 (0, 0))) := ⟨h1_⟩
      have n2_ : Aside0 (w106.heap[gb140]? = some (.cells #[.int .u64 0, .int .u64 0] 25 (0, 0))) := ⟨h2_⟩
      have n3_ : Aside0 (w.heap.size ≤ gb139) := ⟨h3_⟩
      have n4_ : Aside0 (w.heap.size ≤ gb139) := ⟨h4_⟩
      have n5_ : Aside0 (gb138 ≠ gb139) := ⟨h5_⟩
      have n6_ : Aside0 (gb139 ≠ gb138) := ⟨h6_⟩
      have n7_ : Aside0 (gb140 ≠ gb139) := ⟨h7_⟩
      have n8_ : Aside0 (gb139 ≠ gb140) := ⟨h8_⟩
      have n9_ : Aside0 (w.heap.size ≤ gb140) := ⟨h9_⟩
      have n10_ : Aside0 (w.heap.size ≤ gb140) := ⟨h10_⟩
      have n11_ : Aside0 (gb138 ≠ gb140) := ⟨h11_⟩
      have n12_ : Aside0 (gb140 ≠ gb138) := ⟨h12_⟩
      have n13_ : Aside0 (Below w.heap.size w w106) := ⟨h13_⟩
      clear BK138
      clear HB
      clear h0_ h1_ h2_ h3_ h4_ h5_ h6_ h7_ h8_ h9_ h10_ h11_ h12_ h13_
      have BK138 := n0_
      have BK139 := n1_
      have BK140 := n2_
      have GW139 := n3_
      have GE139 := n4_
      have NB138_139 := n5_
      have NB139_138 := n6_
      have NB140_139 := n7_
      have NB139_140 := n8_
      have GW140 := n9_
      have GE140 := n10_
      have NB138_140 := n11_
      have NB140_138 := n12_
      have HB := n13_
      clear n0_ n1_ n2_ n3_ n4_ n5_ n6_ n7_ n8_ n9_ n10_ n11_ n12_ n13_
      have hHeld : w106.cell? ⟨gb138, 0, none⟩ = some (.int .u64 a0_0) ∧ w106.cell? ⟨gb138, 1, none⟩ = some (.int .u64 a0_1) := hS_
      refine norm_ (a' := ?_) ?_ ?_
      rotate_left
      · simp only [putAll, Act.put, List.setIfInBounds_toArray, List.set_cons_zero, List.set_cons_succ]
        rfl
      refine one_ (i := 14) (N := none) #[true, true, true, true, true, true, true, true, true, true, true, true, true, true, true, false] rfl rfl (one_of HT_.out (by kernel_rfl)) (by decide) (fun K hK => ?_)
      have hs107 : w106.cell? ⟨gb139, 0, none⟩ = some (.int .u64 0) := (blk_cell BK139.out 0).trans rfl
      have hfs107 := blk_frozen BK139.out 0
      have hns107_0 := NB138_139.out
      have hns107_2 := NB140_139.out
      have hms107_0 := NB139_138.out
      have hms107_2 := NB139_140.out
      have hs108 : w106.cell? ⟨gb139, 1, none⟩ = some (.int .u64 0) := (blk_cell BK139.out 1).trans rfl
      have hfs108 := blk_frozen BK139.out 1
      have hns108_0 := NB138_139.out
      have hns108_2 := NB140_139.out
      have hms108_0 := NB139_138.out
      have hms108_2 := NB139_140.out
      refine skip_ (w1 := ?_) (by rfl) rfl ?_ ?_
      rotate_left
      · go_simp
        rfl
      refine hK.out _ _ ⟨((cell_far (p := ⟨gb139, _, none⟩) NB138_139.out _).trans (((cell_far (p := ⟨gb139, _, none⟩) NB138_139.out _).trans (hHeld.1)))), ((cell_far (p := ⟨gb139, _, none⟩) NB138_139.out _).trans (((cell_far (p := ⟨gb139, _, none⟩) NB138_139.out _).trans (hHeld.2))))⟩ (fun hHeld => ?_)
      clear hK K
      refine one_ (i := 15) (N := none) #[true, true, true, true, true, true, true, true, true, true, true, true, true, true, true, true] rfl rfl (one_of HT_.out (by kernel_rfl)) (by decide) (fun K hK => ?_)
      have hs109 : w106.cell? ⟨gb140, 0, none⟩ = some (.int .u64 0) := (blk_cell BK140.out 0).trans rfl
      have hfs109 := blk_frozen BK140.out 0
      have hns109_0 := NB138_140.out
      have hns109_1 := NB139_140.out
      have hms109_0 := NB140_138.out
      have hms109_1 := NB140_139.out
      have hs110 : w106.cell? ⟨gb140, 1, none⟩ = some (.int .u64 0) := (blk_cell BK140.out 1).trans rfl
      have hfs110 := blk_frozen BK140.out 1
      have hns110_0 := NB138_140.out
      have hns110_1 := NB139_140.out
      have hms110_0 := NB140_138.out
      have hms110_1 := NB140_139.out
      refine skip_ (w1 := ?_) (by rfl) rfl ?_ ?_
      rotate_left
      · go_simp
        rfl
      refine hK.out _ _ ⟨((cell_far (p := ⟨gb140, _, none⟩) NB138_140.out _).trans (((cell_far (p := ⟨gb140, _, none⟩) NB138_140.out _).trans (hHeld.1)))), ((cell_far (p := ⟨gb140, _, none⟩) NB138_140.out _).trans (((cell_far (p := ⟨gb140, _, none⟩) NB138_140.out _).trans (hHeld.2))))⟩ (fun hHeld => ?_)
      clear hK K
      refine done_ (done_of HT_.out (by kernel_rfl)) ?_
      have hnb111 := NB139_138.out
      have hnc111 := NB138_139.out
      have hnb112 := NB139_140.out
      have hnc112 := NB140_139.out
      have hcz113_0 : w106.cell? ⟨gb139, 0, none⟩ = some (.int .u64 0) := (blk_cell BK139.out 0).trans rfl
      have hcz113_1 : w106.cell? ⟨gb139, 1, none⟩ = some (.int .u64 0) := (blk_cell BK139.out 1).trans rfl
      have hfz113_0 := blk_frozen BK139.out 0
      have hfz113_1 := blk_frozen BK139.out 1
      try go_wp2_with (first | ((with_reducible refine gate_callee (f := 4) rfl ?_); refine goesL_ (some 28) rfl rfl Try.func4 (by kernel_rfl) rfl #[.agg #[.int .u64 a0_0, .int .u64 (Go.bits .andNot .u64 a0_1 1)]] rfl (by (try simp only [List.map_toArray, List.map_cons, List.map_nil]); first | done | rfl | (simp only [List.length_drop, List.length_take]; rfl)) ?_; (with_reducible refine (impl_Coverage.calls a0_0 (Go.bits .andNot .u64 a0_1 1) t141 t142 _ A5.out).mono ?_); rintro e w114 ⟨rfl, hb⟩; refine ⟨_, rfl, ?_⟩; have n0_ := Aside0.mk (blk_below (g := gb138) (o := .cells #[.int .u64 a0_0, .int .u64 a0_1] 25 (0, 0)) (by (with_reducible repeat (first | refine blk_drewN ?_ _ | refine blk_drew ?_ | refine blk_alloc ?_ _)); refine blk_far ?_ NB138_140.out _; (with_reducible repeat (first | refine blk_drewN ?_ _ | refine blk_drew ?_ | refine blk_alloc ?_ _)); refine blk_far ?_ NB138_140.out _; (with_reducible repeat (first | refine blk_drewN ?_ _ | refine blk_drew ?_ | refine blk_alloc ?_ _)); refine blk_far ?_ NB138_139.out _; (with_reducible repeat (first | refine blk_drewN ?_ _ | refine blk_drew ?_ | refine blk_alloc ?_ _)); refine blk_far ?_ NB138_139.out _; (with_reducible repeat (first | refine blk_drewN ?_ _ | refine blk_drew ?_ | refine blk_alloc ?_ _)); exact BK138.out) hb); have n1_ := Aside0.mk (blk_below (g := gb139) (o := .cells #[.int .u64 a0_0, .int .u64 (Go.bits .andNot .u64 a0_1 1)] 25 (0, 0)) (by (with_reducible repeat (first | refine blk_drewN ?_ _ | refine blk_drew ?_ | refine blk_alloc ?_ _)); refine blk_far ?_ NB139_140.out _; (with_reducible repeat (first | refine blk_drewN ?_ _ | refine blk_drew ?_ | refine blk_alloc ?_ _)); refine blk_far ?_ NB139_140.out _; (with_reducible repeat (first | refine blk_drewN ?_ _ | refine blk_drew ?_ | refine blk_alloc ?_ _)); refine blk_put (cs := #[.int .u64 a0_0, .int .u64 0]) ?_ 1 _ rfl; (with_reducible repeat (first | refine blk_drewN ?_ _ | refine blk_drew ?_ | refine blk_alloc ?_ _)); refine blk_put (cs := #[.int .u64 0, .int .u64 0]) ?_ 0 _ rfl; (with_reducible repeat (first | refine blk_drewN ?_ _ | refine blk_drew ?_ | refine blk_alloc ?_ _)); exact BK139.out) hb); have n2_ := Aside0.mk (blk_below (g := gb140) (o := .cells #[.int .u64 a0_0, .int .u64 (Go.bits .or .u64 a0_1 1)] 25 (0, 0)) (by (with_reducible repeat (first | refine blk_drewN ?_ _ | refine blk_drew ?_ | refine blk_alloc ?_ _)); refine blk_put (cs := #[.int .u64 a0_0, .int .u64 0]) ?_ 1 _ rfl; (with_reducible repeat (first | refine blk_drewN ?_ _ | refine blk_drew ?_ | refine blk_alloc ?_ _)); refine blk_put (cs := #[.int .u64 0, .int .u64 0]) ?_ 0 _ rfl; (with_reducible repeat (first | refine blk_drewN ?_ _ | refine blk_drew ?_ | refine blk_alloc ?_ _)); refine blk_far ?_ NB140_139.out _; (with_reducible repeat (first | refine blk_drewN ?_ _ | refine blk_drew ?_ | refine blk_alloc ?_ _)); refine blk_far ?_ NB140_139.out _; (with_reducible repeat (first | refine blk_drewN ?_ _ | refine blk_drew ?_ | refine blk_alloc ?_ _)); exact BK140.out) hb); have n3_ := Aside0.mk (below_step (by repeat (first | (with_reducible first | exact HB.out | apply below_alloc | apply pw_below_drewN | apply below_drew1 | refine below_set ?_ GE138.out | refine below_set ?_ GE139.out | refine below_set ?_ GE140.out) | exact HB.out)) hb); clear BK138; clear BK139; clear BK140; clear HB; have BK138 := n0_; have BK139 := n1_; have BK140 := n2_; have HB := n3_; clear n0_ n1_ n2_ n3_; (try clear hb); (try clear hb2); (try clear hk); (try clear hi); have hnb115 := NB140_138.out; have hnc115 := NB138_140.out; have hcz116_0 : w114.cell? ⟨gb140, 0, none⟩ = some (.int .u64 a0_0) := (blk_cell BK140.out 0).trans rfl; have hcz116_1 : w114.cell? ⟨gb140, 1, none⟩ = some (.int .u64 (Go.bits .or .u64 a0_1 1)) := (blk_cell BK140.out 1).trans rfl; have hfz116_0 := blk_frozen BK140.out 0; have hfz116_1 := blk_frozen BK140.out 1) | ((with_reducible refine gate_callee (f := 4) rfl ?_); refine goesL_ (some 33) rfl rfl Try.func4 (by kernel_rfl) rfl #[.agg #[.int .u64 a0_0, .int .u64 (Go.bits .or .u64 a0_1 1)]] rfl (by (try simp only [List.map_toArray, List.map_cons, List.map_nil]); first | done | rfl | (simp only [List.length_drop, List.length_take]; rfl)) ?_; (with_reducible refine (impl_Coverage.calls a0_0 (Go.bits .or .u64 a0_1 1) t143 t144 _ A6.out).mono ?_); rintro e w117 ⟨rfl, hb⟩; refine ⟨_, rfl, ?_⟩; have n0_ := Aside0.mk (blk_below (g := gb138) (o := .cells #[.int .u64 a0_0, .int .u64 a0_1] 25 (0, 0)) (by (with_reducible repeat (first | refine blk_drewN ?_ _ | refine blk_drew ?_ | refine blk_alloc ?_ _)); exact BK138.out) hb); have n1_ := Aside0.mk (blk_below (g := gb139) (o := .cells #[.int .u64 a0_0, .int .u64 (Go.bits .andNot .u64 a0_1 1)] 25 (0, 0)) (by (with_reducible repeat (first | refine blk_drewN ?_ _ | refine blk_drew ?_ | refine blk_alloc ?_ _)); exact BK139.out) hb); have n2_ := Aside0.mk (blk_below (g := gb140) (o := .cells #[.int .u64 a0_0, .int .u64 (Go.bits .or .u64 a0_1 1)] 25 (0, 0)) (by (with_reducible repeat (first | refine blk_drewN ?_ _ | refine blk_drew ?_ | refine blk_alloc ?_ _)); exact BK140.out) hb); have n3_ := Aside0.mk (below_step (by repeat (first | (with_reducible first | exact HB.out | apply below_alloc | apply pw_below_drewN | apply below_drew1 | refine below_set ?_ GE138.out | refine below_set ?_ GE139.out | refine below_set ?_ GE140.out) | exact HB.out)) hb); clear BK138; clear BK139; clear BK140; clear HB; have BK138 := n0_; have BK139 := n1_; have BK140 := n2_; have HB := n3_; clear n0_ n1_ n2_ n3_; (try clear hb); (try clear hb2); (try clear hk); (try clear hi); have hcz118_0 : w117.cell? ⟨gb138, 0, none⟩ = some (.int .u64 a0_0) := (blk_cell BK138.out 0).trans rfl; have hcz118_1 : w117.cell? ⟨gb138, 1, none⟩ = some (.int .u64 a0_1) := (blk_cell BK138.out 1).trans rfl; have hfz118_0 := blk_frozen BK138.out 0; have hfz118_1 := blk_frozen BK138.out 1) | ((with_reducible refine gate_callee (f := 5) rfl ?_); refine goesL_ (some 38) rfl rfl Try.func5 (by kernel_rfl) rfl #[.agg #[.int .u64 a0_0, .int .u64 a0_1]] rfl (by (try simp only [List.map_toArray, List.map_cons, List.map_nil]); first | done | rfl | (simp only [List.length_drop, List.length_take]; rfl)) ?_; (with_reducible refine (impl_Parent.calls a0_0 a0_1 t145 t146 _ A7.out).mono ?_); rintro e w119 ⟨rfl, hb⟩; refine ⟨_, rfl, ?_⟩; have n0_ := Aside0.mk (blk_below (g := gb138) (o := .cells #[.int .u64 a0_0, .int .u64 a0_1] 25 (0, 0)) (by (with_reducible repeat (first | refine blk_drewN ?_ _ | refine blk_drew ?_ | refine blk_alloc ?_ _)); exact BK138.out) hb); have n1_ := Aside0.mk (blk_below (g := gb139) (o := .cells #[.int .u64 a0_0, .int .u64 (Go.bits .andNot .u64 a0_1 1)] 25 (0, 0)) (by (with_reducible repeat (first | refine blk_drewN ?_ _ | refine blk_drew ?_ | refine blk_alloc ?_ _)); exact BK139.out) hb); have n2_ := Aside0.mk (blk_below (g := gb140) (o := .cells #[.int .u64 a0_0, .int .u64 (Go.bits .or .u64 a0_1 1)] 25 (0, 0)) (by (with_reducible repeat (first | refine blk_drewN ?_ _ | refine blk_drew ?_ | refine blk_alloc ?_ _)); exact BK140.out) hb); have n3_ := Aside0.mk (below_step (by repeat (first | (with_reducible first | exact HB.out | apply below_alloc | apply pw_below_drewN | apply below_drew1 | refine below_set ?_ GE138.out | refine below_set ?_ GE139.out | refine below_set ?_ GE140.out) | exact HB.out)) hb); clear BK138; clear BK139; clear BK140; clear HB; have BK138 := n0_; have BK139 := n1_; have BK140 := n2_; have HB := n3_; clear n0_ n1_ n2_ n3_; (try clear hb); (try clear hb2); (try clear hk); (try clear hi)) | ((with_reducible refine gate_callee (f := 4) rfl ?_); refine goesL_ (some 39) rfl rfl Try.func4 (by kernel_rfl) rfl #[.agg #[.int .u64 t145, .int .u64 t146]] rfl (by (try simp only [List.map_toArray, List.map_cons, List.map_nil]); first | done | rfl | (simp only [List.length_drop, List.length_take]; rfl)) ?_; (with_reducible refine (impl_Coverage.calls t145 t146 t147 t148 _ A8.out).mono ?_); rintro e w120 ⟨rfl, hb⟩; refine ⟨_, rfl, ?_⟩; have n0_ := Aside0.mk (blk_below (g := gb138) (o := .cells #[.int .u64 a0_0, .int .u64 a0_1] 25 (0, 0)) (by (with_reducible repeat (first | refine blk_drewN ?_ _ | refine blk_drew ?_ | refine blk_alloc ?_ _)); exact BK138.out) hb); have n1_ := Aside0.mk (blk_below (g := gb139) (o := .cells #[.int .u64 a0_0, .int .u64 (Go.bits .andNot .u64 a0_1 1)] 25 (0, 0)) (by (with_reducible repeat (first | refine blk_drewN ?_ _ | refine blk_drew ?_ | refine blk_alloc ?_ _)); exact BK139.out) hb); have n2_ := Aside0.mk (blk_below (g := gb140) (o := .cells #[.int .u64 a0_0, .int .u64 (Go.bits .or .u64 a0_1 1)] 25 (0, 0)) (by (with_reducible repeat (first | refine blk_drewN ?_ _ | refine blk_drew ?_ | refine blk_alloc ?_ _)); exact BK140.out) hb); have n3_ := Aside0.mk (below_step (by repeat (first | (with_reducible first | exact HB.out | apply below_alloc | apply pw_below_drewN | apply below_drew1 | refine below_set ?_ GE138.out | refine below_set ?_ GE139.out | refine below_set ?_ GE140.out) | exact HB.out)) hb); clear BK138; clear BK139; clear BK140; clear HB; have BK138 := n0_; have BK139 := n1_; have BK140 := n2_; have HB := n3_; clear n0_ n1_ n2_ n3_; (try clear hb); (try clear hb2); (try clear hk); (try clear hi)))
      have n0_ := Aside0.mk (blk_drew BK138.out)
      have n1_ := Aside0.mk (blk_drew BK139.out)
      have n2_ := Aside0.mk (blk_drew BK140.out)
      have n3_ := Aside0.mk (below_drew1 HB.out)
      clear BK138
      clear BK139
      clear BK140
      clear HB
      have BK138 := n0_
      have BK139 := n1_
      have BK140 := n2_
      have HB := n3_
      clear n0_ n1_ n2_ n3_
      refine start_ (n := 29) (S := fun w' => True) (ds := []) #[false, false, false, false, false, false, false, false, false, false, false, false, false, false, false, false, false, false, false, false, false, false, false, false, false, false, false, false, false] (by kernel_rfl) rfl rfl trivial (fun hHeld => ?_); refine with_tabW lawFC.tab7 lawFC.bits7 (fun HT_ HW_ => ?_)
      generalize w120.drew = w121 at BK138 BK139 BK140 HB hHeld ⊢
      refine pure_ (i := 0) (N := some 42) (v := ?_) (a' := ?_) #[true, false, false, false, false, false, false, false, false, false, false, false, false, false, false, false, false, false, false, false, false, false, false, false, false, false, false, false, false] rfl rfl (any_of HT_.out (by kernel_rfl)) (fun _ _ _ h => h) (Or.inl ⟨by rfl, ?_⟩) ?_ ?_
      rotate_left
      · intro w'
        go_simp
        with_reducible rfl
      rotate_left
      · simp only [Act.put, List.setIfInBounds_toArray, List.set_cons_zero, List.set_cons_succ]
        rfl
      refine pure_ (i := 1) (N := some 43) (v := ?_) (a' := ?_) #[true, true, false, false, false, false, false, false, false, false, false, false, false, false, false, false, false, false, false, false, false, false, false, false, false, false, false, false, false] rfl rfl (any_of HT_.out (by kernel_rfl)) (fun _ _ _ h => h) (Or.inl ⟨by rfl, ?_⟩) ?_ ?_
      rotate_left
      · intro w'
        go_simp
        with_reducible rfl
      rotate_left
      · simp only [Act.put, List.setIfInBounds_toArray, List.set_cons_zero, List.set_cons_succ]
        rfl
      refine pure_ (i := 2) (N := some 44) (v := ?_) (a' := ?_) #[true, true, true, false, false, false, false, false, false, false, false, false, false, false, false, false, false, false, false, false, false, false, false, false, false, false, false, false, false] rfl rfl (any_of HT_.out (by kernel_rfl)) (fun _ _ _ h => h) (Or.inl ⟨by rfl, ?_⟩) ?_ ?_
      rotate_left
      · intro w'
        go_simp
        with_reducible rfl
      rotate_left
      · simp only [Act.put, List.setIfInBounds_toArray, List.set_cons_zero, List.set_cons_succ]
        rfl
      refine pure_ (i := 3) (N := some 45) (v := ?_) (a' := ?_) #[true, true, true, true, false, false, false, false, false, false, false, false, false, false, false, false, false, false, false, false, false, false, false, false, false, false, false, false, false] rfl rfl (any_of HT_.out (by kernel_rfl)) (fun _ _ _ h => h) (Or.inl ⟨by rfl, ?_⟩) ?_ ?_
      rotate_left
      · intro w'
        go_simp
        with_reducible rfl
      rotate_left
      · simp only [Act.put, List.setIfInBounds_toArray, List.set_cons_zero, List.set_cons_succ]
        rfl
      refine pure_ (i := 4) (N := some 46) (v := undef) (a' := ?_) #[true, true, true, true, true, false, false, false, false, false, false, false, false, false, false, false, false, false, false, false, false, false, false, false, false, false, false, false, false] rfl rfl (any_of HT_.out (by kernel_rfl)) (fun _ _ _ h => h) (Or.inr ⟨by rfl, rfl⟩) ?_ ?_
      rotate_left
      · simp only [Act.put, List.setIfInBounds_toArray, List.set_cons_zero, List.set_cons_succ]
        rfl
      refine pure_ (i := 5) (N := some 47) (v := undef) (a' := ?_) #[true, true, true, true, true, true, false, false, false, false, false, false, false, false, false, false, false, false, false, false, false, false, false, false, false, false, false, false, false] rfl rfl (any_of HT_.out (by kernel_rfl)) (fun _ _ _ h => h) (Or.inr ⟨by rfl, rfl⟩) ?_ ?_
      rotate_left
      · simp only [Act.put, List.setIfInBounds_toArray, List.set_cons_zero, List.set_cons_succ]
        rfl
      refine pure_ (i := 6) (N := some 48) (v := undef) (a' := ?_) #[true, true, true, true, true, true, true, false, false, false, false, false, false, false, false, false, false, false, false, false, false, false, false, false, false, false, false, false, false] rfl rfl (any_of HT_.out (by kernel_rfl)) (fun _ _ _ h => h) (Or.inr ⟨by rfl, rfl⟩) ?_ ?_
      rotate_left
      · simp only [Act.put, List.setIfInBounds_toArray, List.set_cons_zero, List.set_cons_succ]
        rfl
      refine pure_ (i := 7) (N := some 49) (v := ?_) (a' := ?_) #[true, true, true, true, true, true, true, true, false, false, false, false, false, false, false, false, false, false, false, false, false, false, false, false, false, false, false, false, false] rfl rfl (any_of HT_.out (by kernel_rfl)) (fun _ _ _ h => h) (Or.inl ⟨by rfl, ?_⟩) ?_ ?_
      rotate_left
      · intro w'
        go_simp
        with_reducible rfl
      rotate_left
      · simp only [Act.put, List.setIfInBounds_toArray, List.set_cons_zero, List.set_cons_succ]
        rfl
      refine pure_ (i := 8) (N := some 50) (v := ?_) (a' := ?_) #[true, true, true, true, true, true, true, true, true, false, false, false, false, false, false, false, false, false, false, false, false, false, false, false, false, false, false, false, false] rfl rfl (any_of HT_.out (by kernel_rfl)) (fun _ _ _ h => h) (Or.inl ⟨by rfl, ?_⟩) ?_ ?_
      rotate_left
      · intro w'
        go_simp
        with_reducible rfl
      rotate_left
      · simp only [Act.put, List.setIfInBounds_toArray, List.set_cons_zero, List.set_cons_succ]
        rfl
      refine pure_ (i := 9) (N := some 51) (v := undef) (a' := ?_) #[true, true, true, true, true, true, true, true, true, true, false, false, false, false, false, false, false, false, false, false, false, false, false, false, false, false, false, false, false] rfl rfl (any_of HT_.out (by kernel_rfl)) (fun _ _ _ h => h) (Or.inr ⟨by rfl, rfl⟩) ?_ ?_
      rotate_left
      · simp only [Act.put, List.setIfInBounds_toArray, List.set_cons_zero, List.set_cons_succ]
        rfl
      refine pure_ (i := 10) (N := some 52) (v := undef) (a' := ?_) #[true, true, true, true, true, true, true, true, true, true, true, false, false, false, false, false, false, false, false, false, false, false, false, false, false, false, false, false, false] rfl rfl (any_of HT_.out (by kernel_rfl)) (fun _ _ _ h => h) (Or.inr ⟨by rfl, rfl⟩) ?_ ?_
      rotate_left
      · simp only [Act.put, List.setIfInBounds_toArray, List.set_cons_zero, List.set_cons_succ]
        rfl
      refine pure_ (i := 11) (N := some 53) (v := undef) (a' := ?_) #[true, true, true, true, true, true, true, true, true, true, true, true, false, false, false, false, false, false, false, false, false, false, false, false, false, false, false, false, false] rfl rfl (any_of HT_.out (by kernel_rfl)) (fun _ _ _ h => h) (Or.inr ⟨by rfl, rfl⟩) ?_ ?_
      rotate_left
      · simp only [Act.put, List.setIfInBounds_toArray, List.set_cons_zero, List.set_cons_succ]
        rfl
      refine pure_ (i := 12) (N := some 54) (v := ?_) (a' := ?_) #[true, true, true, true, true, true, true, true, true, true, true, true, true, false, false, false, false, false, false, false, false, false, false, false, false, false, false, false, false] rfl rfl (any_of HT_.out (by kernel_rfl)) (fun _ _ _ h => h) (Or.inl ⟨by rfl, ?_⟩) ?_ ?_
      rotate_left
      · intro w'
        go_simp
        with_reducible rfl
      rotate_left
      · simp only [Act.put, List.setIfInBounds_toArray, List.set_cons_zero, List.set_cons_succ]
        rfl
      refine pure_ (i := 13) (N := some 55) (v := ?_) (a' := ?_) #[true, true, true, true, true, true, true, true, true, true, true, true, true, true, false, false, false, false, false, false, false, false, false, false, false, false, false, false, false] rfl rfl (any_of HT_.out (by kernel_rfl)) (fun _ _ _ h => h) (Or.inl ⟨by rfl, ?_⟩) ?_ ?_
      rotate_left
      · intro w'
        go_simp
        with_reducible rfl
      rotate_left
      · simp only [Act.put, List.setIfInBounds_toArray, List.set_cons_zero, List.set_cons_succ]
        rfl
      refine pure_ (i := 14) (N := some 56) (v := undef) (a' := ?_) #[true, true, true, true, true, true, true, true, true, true, true, true, true, true, true, false, false, false, false, false, false, false, false, false, false, false, false, false, false] rfl rfl (any_of HT_.out (by kernel_rfl)) (fun _ _ _ h => h) (Or.inr ⟨by rfl, rfl⟩) ?_ ?_
      rotate_left
      · simp only [Act.put, List.setIfInBounds_toArray, List.set_cons_zero, List.set_cons_succ]
        rfl
      refine pure_ (i := 15) (N := some 57) (v := undef) (a' := ?_) #[true, true, true, true, true, true, true, true, true, true, true, true, true, true, true, true, false, false, false, false, false, false, false, false, false, false, false, false, false] rfl rfl (any_of HT_.out (by kernel_rfl)) (fun _ _ _ h => h) (Or.inr ⟨by rfl, rfl⟩) ?_ ?_
      rotate_left
      · simp only [Act.put, List.setIfInBounds_toArray, List.set_cons_zero, List.set_cons_succ]
        rfl
      refine pure_ (i := 16) (N := some 58) (v := undef) (a' := ?_) #[true, true, true, true, true, true, true, true, true, true, true, true, true, true, true, true, true, false, false, false, false, false, false, false, false, false, false, false, false] rfl rfl (any_of HT_.out (by kernel_rfl)) (fun _ _ _ h => h) (Or.inr ⟨by rfl, rfl⟩) ?_ ?_
      rotate_left
      · simp only [Act.put, List.setIfInBounds_toArray, List.set_cons_zero, List.set_cons_succ]
        rfl
      refine pure_ (i := 17) (N := some 59) (v := undef) (a' := ?_) #[true, true, true, true, true, true, true, true, true, true, true, true, true, true, true, true, true, true, false, false, false, false, false, false, false, false, false, false, false] rfl rfl (any_of HT_.out (by kernel_rfl)) (fun _ _ _ h => h) (Or.inr ⟨by rfl, rfl⟩) ?_ ?_
      rotate_left
      · simp only [Act.put, List.setIfInBounds_toArray, List.set_cons_zero, List.set_cons_succ]
        rfl
      refine pure_ (i := 18) (N := some 60) (v := undef) (a' := ?_) #[true, true, true, true, true, true, true, true, true, true, true, true, true, true, true, true, true, true, true, false, false, false, false, false, false, false, false, false, false] rfl rfl (any_of HT_.out (by kernel_rfl)) (fun _ _ _ h => h) (Or.inr ⟨by rfl, rfl⟩) ?_ ?_
      rotate_left
      · simp only [Act.put, List.setIfInBounds_toArray, List.set_cons_zero, List.set_cons_succ]
        rfl
      refine pure_ (i := 19) (N := some 61) (v := undef) (a' := ?_) #[true, true, true, true, true, true, true, true, true, true, true, true, true, true, true, true, true, true, true, true, false, false, false, false, false, false, false, false, false] rfl rfl (any_of HT_.out (by kernel_rfl)) (fun _ _ _ h => h) (Or.inr ⟨by rfl, rfl⟩) ?_ ?_
      rotate_left
      · simp only [Act.put, List.setIfInBounds_toArray, List.set_cons_zero, List.set_cons_succ]
        rfl
      refine pure_ (i := 20) (N := some 62) (v := undef) (a' := ?_) #[true, true, true, true, true, true, true, true, true, true, true, true, true, true, true, true, true, true, true, true, true, false, false, false, false, false, false, false, false] rfl rfl (any_of HT_.out (by kernel_rfl)) (fun _ _ _ h => h) (Or.inr ⟨by rfl, rfl⟩) ?_ ?_
      rotate_left
      · simp only [Act.put, List.setIfInBounds_toArray, List.set_cons_zero, List.set_cons_succ]
        rfl
      refine pure_ (i := 21) (N := some 63) (v := ?_) (a' := ?_) #[true, true, true, true, true, true, true, true, true, true, true, true, true, true, true, true, true, true, true, true, true, true, false, false, false, false, false, false, false] rfl rfl (any_of HT_.out (by kernel_rfl)) (fun _ _ _ h => h) (Or.inl ⟨by rfl, ?_⟩) ?_ ?_
      rotate_left
      · intro w'
        go_simp
        with_reducible rfl
      rotate_left
      · simp only [Act.put, List.setIfInBounds_toArray, List.set_cons_zero, List.set_cons_succ]
        rfl
      refine pure_ (i := 22) (N := some 64) (v := ?_) (a' := ?_) #[true, true, true, true, true, true, true, true, true, true, true, true, true, true, true, true, true, true, true, true, true, true, true, false, false, false, false, false, false] rfl rfl (any_of HT_.out (by kernel_rfl)) (fun _ _ _ h => h) (Or.inl ⟨by rfl, ?_⟩) ?_ ?_
      rotate_left
      · intro w'
        go_simp
        with_reducible rfl
      rotate_left
      · simp only [Act.put, List.setIfInBounds_toArray, List.set_cons_zero, List.set_cons_succ]
        rfl
      refine pure_ (i := 23) (N := some 65) (v := undef) (a' := ?_) #[true, true, true, true, true, true, true, true, true, true, true, true, true, true, true, true, true, true, true, true, true, true, true, true, false, false, false, false, false] rfl rfl (any_of HT_.out (by kernel_rfl)) (fun _ _ _ h => h) (Or.inr ⟨by rfl, rfl⟩) ?_ ?_
      rotate_left
      · simp only [Act.put, List.setIfInBounds_toArray, List.set_cons_zero, List.set_cons_succ]
        rfl
      refine pure_ (i := 24) (N := some 66) (v := undef) (a' := ?_) #[true, true, true, true, true, true, true, true, true, true, true, true, true, true, true, true, true, true, true, true, true, true, true, true, true, false, false, false, false] rfl rfl (any_of HT_.out (by kernel_rfl)) (fun _ _ _ h => h) (Or.inr ⟨by rfl, rfl⟩) ?_ ?_
      rotate_left
      · simp only [Act.put, List.setIfInBounds_toArray, List.set_cons_zero, List.set_cons_succ]
        rfl
      refine pure_ (i := 25) (N := some 67) (v := undef) (a' := ?_) #[true, true, true, true, true, true, true, true, true, true, true, true, true, true, true, true, true, true, true, true, true, true, true, true, true, true, false, false, false] rfl rfl (any_of HT_.out (by kernel_rfl)) (fun _ _ _ h => h) (Or.inr ⟨by rfl, rfl⟩) ?_ ?_
      rotate_left
      · simp only [Act.put, List.setIfInBounds_toArray, List.set_cons_zero, List.set_cons_succ]
        rfl
      refine pure_ (i := 26) (N := some 68) (v := undef) (a' := ?_) #[true, true, true, true, true, true, true, true, true, true, true, true, true, true, true, true, true, true, true, true, true, true, true, true, true, true, true, false, false] rfl rfl (any_of HT_.out (by kernel_rfl)) (fun _ _ _ h => h) (Or.inr ⟨by rfl, rfl⟩) ?_ ?_
      rotate_left
      · simp only [Act.put, List.setIfInBounds_toArray, List.set_cons_zero, List.set_cons_succ]
        rfl
      refine pure_ (i := 27) (N := some 69) (v := ?_) (a' := ?_) #[true, true, true, true, true, true, true, true, true, true, true, true, true, true, true, true, true, true, true, true, true, true, true, true, true, true, true, true, false] rfl rfl (any_of HT_.out (by kernel_rfl)) (fun _ _ _ h => h) (Or.inl ⟨by rfl, ?_⟩) ?_ ?_
      rotate_left
      · intro w'
        go_simp
        with_reducible rfl
      rotate_left
      · simp only [Act.put, List.setIfInBounds_toArray, List.set_cons_zero, List.set_cons_succ]
        rfl
      refine pure_ (i := 28) (N := some 2) (v := ?_) (a' := ?_) #[true, true, true, true, true, true, true, true, true, true, true, true, true, true, true, true, true, true, true, true, true, true, true, true, true, true, true, true, true] rfl rfl (any_of HT_.out (by kernel_rfl)) (fun _ _ _ h => h) (Or.inl ⟨by rfl, ?_⟩) ?_ ?_
      rotate_left
      · intro w'
        go_simp
        with_reducible rfl
      rotate_left
      · simp only [Act.put, List.setIfInBounds_toArray, List.set_cons_zero, List.set_cons_succ]
        rfl
      refine done_ (done_of HT_.out (by kernel_rfl)) ?_
      try go_wp2
      go_ret
      exact ⟨by first | rfl | (simp [errW_none, errW_some] <;> rfl) | (simp [*, errW_none, errW_some] <;> rfl), by repeat (first | (with_reducible first | exact HB.out | apply below_alloc | apply pw_below_drewN | apply below_drew1 | refine below_set ?_ GE138.out | refine below_set ?_ GE139.out | refine below_set ?_ GE140.out) | exact HB.out)⟩

end Go.Proofs.Ytkkkaegocinkeaa.Q
