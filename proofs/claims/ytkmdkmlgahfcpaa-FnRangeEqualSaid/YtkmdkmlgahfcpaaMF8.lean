-- Written by a program of ours (wip/xp) out of the translation; Lean checks it.
import Derived.Test.YtkmdkmlgahfcpaaM0
import Derived.Test.YtkmdkmlgahfcpaaMF36
import Derived.Test.YtkmdkmlgahfcpaaMF37
import Derived.Test.YtkmdkmlgahfcpaaMF23
import Derived.Test.YtkmdkmlgahfcpaaMF38
namespace Go.Proofs.Ytkmdkmlgahfcpaa.M
open Go.RowKit Go.Proofs.YtkmdkmlgahfcpaaW.PrintWords Go.Proofs.YtkmdkmlgahfcpaaW.PrintLast Go.Proofs.YtkmdkmlgahfcpaaW.PrintMore
attribute [local go_sem] max2_int min2_int max_two min_two max_three min_three max_four min_four   -- for this text's walks alone
set_option linter.unusedVariables false
set_option linter.unusedSimpArgs false

/-! ### impl_EqualRanges: function 8 -/
theorem run_neq_ptr_same {P : Program} {tp te : TypeId} {j : TypeInfo} (w : World) (a : Addr) (hp : P.underlying tp = some (.pointer te)) (hte : P.info? te = some j) :
    (binOp .neq tp (.pointer (some a)) (.pointer (some a))).run P w = .ok (.bool false) w := by
  have h : ∀ d : Nat, (Op.equalIn (d + 1) tp (.pointer (some a)) (.pointer (some a))).run P w = .ok true w := fun d => by
    simp [Op.equalIn, run_underlying hp, sizeOf, typeInfo, hte, run_sameAddr_same]
  simp only [binOp]
  simp [Op.equal, Op.maxDepth, h 9999]
theorem fact_ptr (a : Addr) (w : World) : (binOp .neq 49 (.pointer (some a)) (.pointer (some a))).run Try.prog w = .ok (.bool false) w := by
  have h : (Try.prog.info? 55).isSome = true := by kernel_rfl
  obtain ⟨j, hj⟩ := Option.isSome_iff_exists.mp h
  exact run_neq_ptr_same w a Try.underlying49 hj
/-- A range in memory. -/
def RgB (g : Nat) (fv : Value) (b e : Int) (A : Option Addr) (n c : Nat) (w : World) : Prop := w.heap[g]? = some (.cells #[fv, .int .u64 b, .int .u64 e, .slice A n c] 80 (0, 0))
set_option maxHeartbeats 8000000 in
set_option maxRecDepth 100000 in
theorem compact_NewRange.good (fp : Addr) (b e : Int) (A : Option Addr) (n c : Nat) (w : World) (hbe : b ≤ e) (hs : compact_RangeSize.f b e = some (n : Int)) :
    Calls Try.prog 22 #[.pointer (some fp), .int .u64 b, .int .u64 e, .slice A n c] w fun ev w' => ∃ g, ev = .returned (.tuple #[.pointer (some ⟨g, 0, none⟩), .nilIface]) ∧ w.heap.size ≤ g ∧ RgB g (.pointer (some fp)) b e A n c w' ∧ Below w.heap.size w w' := by
  have HS := Aside0.mk hs
  clear hs
  have h1 : ¬ e < b := by omega
  have hne : ((n : Int) != (n : Int)) = false := by simp
  go_enter Try.func22, Try.ntmps22
  go_wp2_with (go_at_call 37; (with_reducible refine (compact_RangeSize.calls b e (n : Int) _ HS.out).mono ?_); rintro e' w' ⟨rfl, ⟨nq, rfl⟩⟩)
  go_ret2
  exact ⟨_, rfl, Nat.le_refl _, blk_new _ _, below_alloc (pw_below_drewN (Below.refl _ _) nq) _⟩
set_option maxHeartbeats 8000000 in
set_option maxRecDepth 100000 in
theorem compact_NewRange.bad (fp : Addr) (b e : Int) (A : Option Addr) (n c : Nat) (w : World) (s : Int) (hbe : e < b ∨ compact_RangeSize.f b e = some s ∧ ¬ (n : Int) = s) :
    Calls Try.prog 22 #[.pointer (some fp), .int .u64 b, .int .u64 e, .slice A n c] w fun ev w' => ∃ (T_ : Int → TypeId) (X_ : Int → Value), ev = .returned (.tuple #[.pointer none, errW T_ X_ (some 0)]) ∧ Below w.heap.size w w' := by
  by_cases h1 : e < b
  · go_enter Try.func22, Try.ntmps22
    go_wp2_with (go_at_call 36; (with_reducible refine (errors_New.calls _ (some 0) _ rfl).mono ?_); rintro e' w' ⟨T_, X_, rfl, hb⟩; have HB := Aside0.mk hb; clear hb)
    go_ret2
    exact ⟨T_, X_, rfl, HB.out⟩
  · have hs := hbe.resolve_left h1
    have HS := Aside0.mk hs.1
    have hne : ((n : Int) != s) = true := by rw [bne_iff_ne]; exact hs.2
    clear hs hbe
    go_enter Try.func22, Try.ntmps22
    go_wp2_with (first | (go_at_call 37; (with_reducible refine (compact_RangeSize.calls b e s _ HS.out).mono ?_); rintro e' w' ⟨rfl, ⟨nq, rfl⟩⟩) | (go_at_call 36; (with_reducible refine (errors_New.calls _ (some 0) _ rfl).mono ?_); rintro e' w' ⟨T_, X_, rfl, hb⟩; have HB := Aside0.mk hb; clear hb))
    go_ret2
    exact ⟨T_, X_, rfl, below_step (pw_below_drewN (Below.refl _ _) nq) HB.out⟩
/-- Row by row. -/
def rg_eqL : Nat → List (List Int) → List (List Int) → Int → Option Bool
  | 0, _, _, _ => none
  | k + 1, xs, ys, i => if i < (xs.length : Int) then (if 0 ≤ i then (if i < (ys.length : Int) then (bytes_Equal.f (rd_L1 xs i) (rd_L1 ys i)).bind fun r => if r = true then rg_eqL k xs ys (wrap64 (i + 1)) else some false else none) else none) else some true
def rg_eq (k : Nat) (b1 e1 : Int) (xs : List (List Int)) (b2 e2 : Int) (ys : List (List Int)) : Option Bool :=
  if b1 = b2 then (if e1 = e2 then (if (xs.length : Int) = (ys.length : Int) then rg_eqL k xs ys 0 else some false) else some false) else some false
theorem rg_eqL_mono : ∀ k xs ys i, LeO (rg_eqL k xs ys i) (rg_eqL (k + 1) xs ys i)
  | 0, _, _, _ => fun _ h => by simp [rg_eqL] at h
  | k + 1, xs, ys, i => by
    rw [rg_eqL, rg_eqL]
    repeat' first
      | exact rg_eqL_mono _ _ _ _
      | exact LeO.refl _
      | refine LeO.ite ?_ ?_
      | refine LeO.bind ?_ (fun _ => ?_)
theorem rg_eq_mono (b1 e1 : Int) (xs : List (List Int)) (b2 e2 : Int) (ys : List (List Int)) (k : Nat) : LeO (rg_eq k b1 e1 xs b2 e2 ys) (rg_eq (k + 1) b1 e1 xs b2 e2 ys) := by
  unfold rg_eq
  repeat' first
    | exact rg_eqL_mono _ _ _ _
    | exact LeO.refl _
    | refine LeO.ite ?_ ?_
set_option maxHeartbeats 8000000 in
set_option maxRecDepth 100000 in
theorem compact_Range_Equal.calls (k g1 g2 : Nat) (fp : Addr) (b1 e1 b2 e2 : Int) (A1 A2 : Option Addr) (c1 c2 : Nat) (xs ys : List (List Int)) (r : Bool) (w : World) (h1 : RgB g1 (.pointer (some fp)) b1 e1 A1 xs.length c1 w) (h2 : RgB g2 (.pointer (some fp)) b2 e2 A2 ys.length c2 w)
    (hr1 : Kd.C (Kd.slice 5 (Kd.int .u8)) w A1 xs.length xs) (hr2 : Kd.C (Kd.slice 5 (Kd.int .u8)) w A2 ys.length ys) (h : rg_eq k b1 e1 xs b2 e2 ys = some r) :
    Calls Try.prog 24 #[.pointer (some ⟨g1, 0, none⟩), .pointer (some ⟨g2, 0, none⟩)] w fun e w' => e = .returned (.bool r) ∧ Drawn0 w w' := by
  have HR0 := Aside0.mk hr1
  have HR1 := Aside0.mk hr2
  clear hr1 hr2
  have q0 : w.cell? ⟨g1, 0, none⟩ = some (.pointer (some fp)) := (blk_cell h1 0).trans rfl
  have q1 : w.cell? ⟨g1, 1, none⟩ = some (.int .u64 b1) := (blk_cell h1 1).trans rfl
  have q2 : w.cell? ⟨g1, 2, none⟩ = some (.int .u64 e1) := (blk_cell h1 2).trans rfl
  have q3 : w.cell? ⟨g1, 3, none⟩ = some (.slice A1 xs.length c1) := (blk_cell h1 3).trans rfl
  have p0 : w.cell? ⟨g2, 0, none⟩ = some (.pointer (some fp)) := (blk_cell h2 0).trans rfl
  have p1 : w.cell? ⟨g2, 1, none⟩ = some (.int .u64 b2) := (blk_cell h2 1).trans rfl
  have p2 : w.cell? ⟨g2, 2, none⟩ = some (.int .u64 e2) := (blk_cell h2 2).trans rfl
  have p3 : w.cell? ⟨g2, 3, none⟩ = some (.slice A2 ys.length c2) := (blk_cell h2 3).trans rfl
  clear h1 h2
  have hfp := fact_ptr fp
  unfold rg_eq at h
  have hb1 : (b1 != b1) = false := by simp
  have he1 : (e1 != e1) = false := by simp
  by_cases d1 : b1 = b2
  case neg =>
    rw [if_neg d1] at h
    obtain rfl := Option.some.inj h
    have d1b : (b1 != b2) = true := bne_iff_ne.mpr d1
    go_enter Try.func24, Try.ntmps24
    go_wp2
    go_quiet (fail)
    go_wp2
    go_ret
    exact ⟨rfl, by repeat (first | exact Drawn0.refl _ | apply Drawn0.step)⟩
  rw [if_pos d1] at h
  subst d1
  by_cases d2 : e1 = e2
  case neg =>
    rw [if_neg d2] at h
    obtain rfl := Option.some.inj h
    have d1b : (e1 != e2) = true := bne_iff_ne.mpr d2
    go_enter Try.func24, Try.ntmps24
    go_wp2
    go_quiet (fail)
    go_wp2
    go_ret
    exact ⟨rfl, by repeat (first | exact Drawn0.refl _ | apply Drawn0.step)⟩
  rw [if_pos d2] at h
  subst d2
  by_cases d3 : (xs.length : Int) = (ys.length : Int)
  case neg =>
    rw [if_neg d3] at h
    obtain rfl := Option.some.inj h
    have d1b : ((xs.length : Int) != (ys.length : Int)) = true := bne_iff_ne.mpr d3
    go_enter Try.func24, Try.ntmps24
    go_wp2
    go_quiet (fail)
    go_wp2
    go_quiet (fail)
    go_wp2
    go_ret
    exact ⟨rfl, by repeat (first | exact Drawn0.refl _ | apply Drawn0.step)⟩
  rw [if_pos d3] at h
  have d3b : ((xs.length : Int) != (ys.length : Int)) = false := bne_eq_false_iff_eq.mpr d3
  clear d3
  have H' := Aside0.mk h
  clear h
  go_enter Try.func24, Try.ntmps24
  go_wp2
  go_quiet (fail)
  go_wp2
  go_quiet (fail)
  go_wp2
  clear d3b
  go_loopg [53] k (fun kq v13 w' => ∃ (x : Int), v13 = .int .i64 x ∧ Aside0 (rg_eqL kq xs ys x = some r) ∧ Aside0 (kq ≤ k) ∧ Drawn0 w w')
  case atStart => exact ⟨0, rfl, H', ⟨Nat.le_refl _⟩, by repeat (first | exact Drawn0.refl _ | apply Drawn0.step)⟩
  case round =>
    clear H'
    obtain ⟨x, rfl, HA, HK1, ⟨m1, rfl⟩⟩ := hrel
    cases gk with
    | zero => exact absurd HA.out (by simp [rg_eqL])
    | succ k1 =>
      have H := HA.out
      clear HA
      rw [rg_eqL] at H
      by_cases c1 : x < (xs.length : Int)
      · rw [if_pos c1] at H
        by_cases c2 : 0 ≤ x
        case neg => rw [if_neg c2] at H; exact absurd H (by simp)
        rw [if_pos c2] at H
        by_cases c3 : x < (ys.length : Int)
        case neg => rw [if_neg c3] at H; exact absurd H (by simp)
        rw [if_pos c3] at H
        obtain ⟨q, hq, H⟩ := Option.bind_eq_some_iff.mp H
        have HQ := Aside0.mk hq
        have H' := Aside0.mk H
        clear hq H
        obtain ⟨ad135, A135_0, c135_0, e135, hx135_0, hl135_0, hi135_0⟩ := at_L1 HR0.out x c2 c1
        cases e135
        have HR135_0 := Aside0.mk hi135_0
        have HC135_0 := Aside0.mk hl135_0
        clear hi135_0 hl135_0
        obtain ⟨ad136, A136_0, c136_0, e136, hx136_0, hl136_0, hi136_0⟩ := at_L1 HR1.out x c2 c3
        cases e136
        have HR136_0 := Aside0.mk hi136_0
        have HC136_0 := Aside0.mk hl136_0
        clear hi136_0 hl136_0
        have c1b0 : decide (x < (xs.length : Int)) = true := decide_eq_true c1
        have c2b0 : decide (0 ≤ x) = true := decide_eq_true c2
        have c3b0 : decide (x < (ys.length : Int)) = true := decide_eq_true c3
        replace c1 := eq_true c1
        replace c2 := eq_true c2
        replace c3 := eq_true c3
        cases q with
        | true =>
          have H'' := Aside0.mk (show rg_eqL k1 xs ys (wrap64 (x + 1)) = some r by have := H'.out; rwa [if_pos rfl] at this)
          clear H'
          go_wp2
          go_quiet ((go_at_call 38; refine (bytes_Equal.calls A135_0 c135_0 _ A136_0 c136_0 _ true _ ?side1 HC135_0.out ?side2 HC136_0.out HQ.out).mono ?_; (case side1 => exact Kd.C_drewN HR135_0.out _); (case side2 => exact Kd.C_drewN HR136_0.out _); rintro e w'' ⟨he, ⟨m, hm⟩⟩; exact ⟨he, _, by rw [hm, World.drewN_drewN, Nat.add_assoc]⟩))
          go_wp2
          go_roundg k1
          case measure => have := HK1.out; omega
          case rel => exact ⟨(wrap64 (x + 1)), rfl, H'', ⟨by have := HK1.out; omega⟩, by repeat (first | exact Drawn0.refl _ | apply Drawn0.step)⟩
        | false =>
          have hr : r = false := by have := H'.out; rw [if_neg (by decide)] at this; exact (Option.some.inj this).symm
          subst hr
          clear H'
          go_wp2
          go_quiet ((go_at_call 38; refine (bytes_Equal.calls A135_0 c135_0 _ A136_0 c136_0 _ false _ ?side1 HC135_0.out ?side2 HC136_0.out HQ.out).mono ?_; (case side1 => exact Kd.C_drewN HR135_0.out _); (case side2 => exact Kd.C_drewN HR136_0.out _); rintro e w'' ⟨he, ⟨m, hm⟩⟩; exact ⟨he, _, by rw [hm, World.drewN_drewN, Nat.add_assoc]⟩))
          go_wp2
          go_ret
          exact ⟨rfl, by repeat (first | exact Drawn0.refl _ | apply Drawn0.step)⟩
      · rw [if_neg c1] at H
        obtain rfl := Option.some.inj H
        have c1b0 : decide (x < (xs.length : Int)) = false := decide_eq_false c1
        replace c1 := eq_false c1
        go_wp2
        go_ret
        exact ⟨rfl, by repeat (first | exact Drawn0.refl _ | apply Drawn0.step)⟩
def newOk (b e : Int) (x : List (List Int)) : Option Bool := if e < b then some false else (compact_RangeSize.f b e).bind fun s => some (decide ((x.length : Int) = s))
theorem newOk_true {b e : Int} {x : List (List Int)} (h : newOk b e x = some true) : b ≤ e ∧ compact_RangeSize.f b e = some (x.length : Int) := by
  unfold newOk at h
  by_cases c : e < b
  · rw [if_pos c] at h; exact absurd h (by simp)
  · rw [if_neg c] at h
    obtain ⟨s, hs, h⟩ := Option.bind_eq_some_iff.mp h
    have := of_decide_eq_true (Option.some.inj h)
    exact ⟨by omega, by rw [hs, this]⟩
theorem newOk_false {b e : Int} {x : List (List Int)} (h : newOk b e x = some false) : ∃ s, e < b ∨ compact_RangeSize.f b e = some s ∧ ¬ (x.length : Int) = s := by
  unfold newOk at h
  by_cases c : e < b
  · exact ⟨0, .inl c⟩
  · rw [if_neg c] at h
    obtain ⟨s, hs, h⟩ := Option.bind_eq_some_iff.mp h
    exact ⟨s, .inr ⟨hs, of_decide_eq_false (Option.some.inj h)⟩⟩
def impl_EqualRanges.f (k : Nat) (a0_0 : Int) (a0_1 : Int) (l0_2 : List (List Int)) (a1_0 : Int) (a1_1 : Int) (l1_2 : List (List Int)) : Option Bool :=
  (impl_texts.f k l0_2).bind fun x => (newOk a0_0 a0_1 x).bind fun o1 => if o1 = true then ((impl_texts.f k l1_2).bind fun y => (newOk a1_0 a1_1 y).bind fun o2 => if o2 = true then rg_eq k a0_0 a0_1 x a1_0 a1_1 y else some false) else some false
theorem impl_EqualRanges.mono : ∀ a0 a1 a2 a3 a4 a5 k, LeO (impl_EqualRanges.f k a0 a1 a2 a3 a4 a5) (impl_EqualRanges.f (k + 1) a0 a1 a2 a3 a4 a5) := by
  intro a0 a1 a2 a3 a4 a5 k
  unfold impl_EqualRanges.f
  repeat' first
    | exact impl_texts.mono _ _
    | exact rg_eq_mono _ _ _ _ _ _ _
    | exact LeO.refl _
    | refine LeO.ite ?_ ?_
    | refine LeO.bind ?_ (fun _ => ?_)
theorem fact_func (fn : Fn) (first cap : Array Value) (w : World) : (Instr.makeFunc fn first cap).run Try.prog w = .ok (.func fn first cap) w := rfl
def HeldR (g : Nat) (b e : Int) (A : Option Addr) (n c : Nat) (w : World) : Prop := w.cell? ⟨g, 0, none⟩ = some (.int .u64 b) ∧ w.cell? ⟨g, 1, none⟩ = some (.int .u64 e) ∧ w.cell? ⟨g, 2, none⟩ = some (.slice A n c)
theorem HeldR.of {g : Nat} {b e : Int} {A : Option Addr} {n c : Nat} {w : World} (h : w.heap[g]? = some (.cells #[.int .u64 b, .int .u64 e, .slice A n c] 25 (0, 0))) : HeldR g b e A n c w :=
  ⟨(blk_cell h 0).trans rfl, (blk_cell h 1).trans rfl, (blk_cell h 2).trans rfl⟩
theorem RgB.lt {g : Nat} {fv : Value} {b e : Int} {A : Option Addr} {n c : Nat} {w : World} (h : RgB g fv b e A n c w) : g < w.heap.size := blk_lt h
theorem RgB.below {g : Nat} {fv : Value} {b e : Int} {A : Option Addr} {n c : Nat} {w w' : World} (h : RgB g fv b e A n c w) (hb : Below w.heap.size w w') : RgB g fv b e A n c w' := blk_below h hb
theorem HeldR.below {g B : Nat} {b e : Int} {A : Option Addr} {n c : Nat} {w w' : World} (h : HeldR g b e A n c w) (hb : Below B w w') (hg : g < B) : HeldR g b e A n c w' :=
  ⟨(hb.cell (p := ⟨g, 0, none⟩) hg).trans h.1, (hb.cell (p := ⟨g, 1, none⟩) hg).trans h.2.1, (hb.cell (p := ⟨g, 2, none⟩) hg).trans h.2.2⟩
set_option maxHeartbeats 8000000 in
set_option maxRecDepth 100000 in
theorem impl_EqualRanges.calls (k : Nat) (a0_0 : Int) (a0_1 : Int) (A0_2 : Option Addr) (c0_2 : Nat) (l0_2 : List (List Int)) (a1_0 : Int) (a1_1 : Int) (A1_2 : Option Addr) (c1_2 : Nat) (l1_2 : List (List Int)) (r : Bool) (w : World) (hr0_2 : Kd.C (Kd.slice 5 (Kd.int .u8)) w A0_2 l0_2.length l0_2) (hc0_2 : l0_2.length ≤ c0_2) (hr1_2 : Kd.C (Kd.slice 5 (Kd.int .u8)) w A1_2 l1_2.length l1_2) (hc1_2 : l1_2.length ≤ c1_2) (h : impl_EqualRanges.f k a0_0 a0_1 l0_2 a1_0 a1_1 l1_2 = some r) :
    Calls Try.prog 8 #[.agg #[.int .u64 a0_0, .int .u64 a0_1, .slice A0_2 l0_2.length c0_2], .agg #[.int .u64 a1_0, .int .u64 a1_1, .slice A1_2 l1_2.length c1_2]] w fun e w' => e = .returned (.bool r) ∧ Below w.heap.size w w' := by
  have hmf := fact_func
  unfold impl_EqualRanges.f at h
  obtain ⟨x, hx, h⟩ := Option.bind_eq_some_iff.mp h
  obtain ⟨o1, ho1, h⟩ := Option.bind_eq_some_iff.mp h
  have HC0 := Aside0.mk hc0_2
  have HC1 := Aside0.mk hc1_2
  have HX := Aside0.mk hx
  clear hc0_2 hc1_2 hx
  obtain ⟨w3, hw3⟩ : ∃ w3, w3 = ((w.alloc (.cells #[.int .u64 a0_0, .int .u64 a0_1, .slice A0_2 l0_2.length c0_2] 25)).alloc (.cells #[.int .u64 a1_0, .int .u64 a1_1, .slice A1_2 l1_2.length c1_2] 25)).alloc (.cells #[.func (.func 21) #[.agg #[.int .i64 0, .int .i64 0, .int .i64 0, .int .u64 0, .int .u64 0, .int .u64 0]] #[]] 55) := ⟨_, rfl⟩
  have hb3 : Below w.heap.size w w3 := by rw [hw3]; exact below_alloc (below_alloc (below_alloc (Below.refl _ _) _) _) _
  have hk1 : w3.heap[w.heap.size]? = some (.cells #[.int .u64 a0_0, .int .u64 a0_1, .slice A0_2 l0_2.length c0_2] 25 (0, 0)) := by rw [hw3]; exact blk_alloc (blk_alloc (blk_new w _) _) _
  have hk2 : w3.heap[w.heap.size + 1]? = some (.cells #[.int .u64 a1_0, .int .u64 a1_1, .slice A1_2 l1_2.length c1_2] 25 (0, 0)) := by
    rw [hw3]
    have := blk_new (w.alloc (.cells #[.int .u64 a0_0, .int .u64 a0_1, .slice A0_2 l0_2.length c0_2] 25)) (Obj.cells #[.int .u64 a1_0, .int .u64 a1_1, .slice A1_2 l1_2.length c1_2] 25)
    rw [show (w.alloc (.cells #[.int .u64 a0_0, .int .u64 a0_1, .slice A0_2 l0_2.length c0_2] 25)).heap.size = w.heap.size + 1 from Array.size_push _] at this
    exact blk_alloc this _
  have hg1 := blk_lt hk1
  have hg2 := blk_lt hk2
  have HB3 := Aside0.mk hb3
  have HG1 := Aside0.mk hg1
  have HG2 := Aside0.mk hg2
  have HK2 := Aside0.mk hk2
  have HR0 := Aside0.mk (Kd.C_below hr0_2 hb3)
  have HR1 := Aside0.mk (Kd.C_below hr1_2 hb3)
  have q0 : w3.cell? ⟨w.heap.size, 0, none⟩ = some (.int .u64 a0_0) := (blk_cell hk1 0).trans rfl
  have q1 : w3.cell? ⟨w.heap.size, 1, none⟩ = some (.int .u64 a0_1) := (blk_cell hk1 1).trans rfl
  have q2 : w3.cell? ⟨w.heap.size, 2, none⟩ = some (.slice A0_2 l0_2.length c0_2) := (blk_cell hk1 2).trans rfl
  have HQ : Aside0 (HeldR w.heap.size a0_0 a0_1 A0_2 l0_2.length c0_2 w3) := Aside0.mk ⟨q0, q1, q2⟩
  clear hb3 hk1 hk2 hg1 hg2 hr0_2 hr1_2
  go_enter Try.func8, Try.ntmps8
  go_upto_region 2 with (fail)
  rw [← hw3]
  clear hw3
  generalize hgw : w.heap.size = gw at *
  have HGW := Aside0.mk hgw
  clear hgw
  have e3 : gw + 1 + 1 = gw + 2 := rfl
  generalize hf : gw + 1 + 1 = gf at *
  generalize hge : gw + 1 = ga at *
  clear hf hge e3
  cases o1 with
  | false =>
    obtain ⟨s, hs⟩ := newOk_false ho1
    have HS := Aside0.mk hs
    have hr : r = false := by rw [if_neg (by decide)] at h; exact (Option.some.inj h).symm
    subst hr
    clear hs h ho1
    go_region_held3 (fun w' => w'.cell? ⟨gw, 0, none⟩ = some (.int .u64 a0_0) ∧ w'.cell? ⟨gw, 1, none⟩ = some (.int .u64 a0_1) ∧ w'.cell? ⟨gw, 2, none⟩ = some (.slice A0_2 l0_2.length c0_2)) (first | exact HS7.out | exact HS6.out | go_keep)
      (first
        | (go_at_call 23; (with_reducible refine (impl_texts.calls k A0_2 c0_2 l0_2 x _ ?side1 HC0.out HX.out).mono ?_); (case side1 => first | exact HR0.out | exact Kd.C_drew HR0.out | exact Kd.C_drewN HR0.out _); rintro e' w6 ⟨v6, rfl, hS6, hB6⟩; have hR6 := Kd.S_R hS6; obtain ⟨A6, c6, rfl⟩ := Kd.R_slice hR6; have hb6 : Below w3.heap.size w3 w6 := (by first | exact hB6 | exact below_step (below_drew (Below.refl _ _)) hB6 | exact below_step (pw_below_drewN (Below.refl _ _) _) hB6); have HB6 := Aside0.mk hb6; have HS6 := Aside0.mk (HQ.out.below hb6 HG1.out); have HX6 := Aside0.mk (Kd.R_reads' hR6).2.2; have HX6c := Aside0.mk (Kd.R_reads' hR6).2.1; clear hS6 hB6 hb6 hR6)
        | (go_at_call 22; (with_reducible refine (compact_NewRange.bad _ a0_0 a0_1 A6 x.length c6 _ s HS.out).mono ?_); rintro e' w7 ⟨T_, X_, rfl, hB7⟩; have HB7 := Aside0.mk (by first | exact below_step HB6.out hB7 | exact below_step (below_drew HB6.out) hB7 | exact below_step (pw_below_drewN HB6.out _) hB7 : Below w3.heap.size w3 w7); have HS7 := Aside0.mk (HQ.out.below HB7.out HG1.out); clear hB7; simp only [errW_some]))
    all_goals
      go_wp2
      go_ret
      exact ⟨rfl, by have hgw := HGW.out; subst hgw; first | exact below_step HB3.out HB7.out | exact below_drew (below_step HB3.out HB7.out) | exact pw_below_drewN (below_step HB3.out HB7.out) _⟩
  | true =>
    obtain ⟨hbe, hsz⟩ := newOk_true ho1
    have HBE := Aside0.mk hbe
    have HSZ := Aside0.mk hsz
    rw [if_pos rfl] at h
    obtain ⟨y, hy, h⟩ := Option.bind_eq_some_iff.mp h
    obtain ⟨o2, ho2, h⟩ := Option.bind_eq_some_iff.mp h
    have HY := Aside0.mk hy
    clear hbe hsz ho1 hy
    go_region_held3 (fun w' => w'.cell? ⟨gw, 0, none⟩ = some (.int .u64 a0_0) ∧ w'.cell? ⟨gw, 1, none⟩ = some (.int .u64 a0_1) ∧ w'.cell? ⟨gw, 2, none⟩ = some (.slice A0_2 l0_2.length c0_2)) (first | exact HS7.out | exact HS6.out | go_keep)
      (first
        | (go_at_call 23; (with_reducible refine (impl_texts.calls k A0_2 c0_2 l0_2 x _ ?side1 HC0.out HX.out).mono ?_); (case side1 => first | exact HR0.out | exact Kd.C_drew HR0.out | exact Kd.C_drewN HR0.out _); rintro e' w6 ⟨v6, rfl, hS6, hB6⟩; have hR6 := Kd.S_R hS6; obtain ⟨A6, c6, rfl⟩ := Kd.R_slice hR6; have hb6 : Below w3.heap.size w3 w6 := (by first | exact hB6 | exact below_step (below_drew (Below.refl _ _)) hB6 | exact below_step (pw_below_drewN (Below.refl _ _) _) hB6); have HB6 := Aside0.mk hb6; have HS6 := Aside0.mk (HQ.out.below hb6 HG1.out); have HX6 := Aside0.mk (Kd.R_reads' hR6).2.2; have HX6c := Aside0.mk (Kd.R_reads' hR6).2.1; clear hS6 hB6 hb6 hR6)
        | (go_at_call 22; (with_reducible refine (compact_NewRange.good _ a0_0 a0_1 A6 x.length c6 _ HBE.out HSZ.out).mono ?_); rintro e' w7 ⟨g7, rfl, hg7, hR7, hB7⟩; have HX7 := Aside0.mk (by first | exact Kd.C_below HX6.out hB7 | exact Kd.C_below (Kd.C_drew HX6.out) hB7 | exact Kd.C_below (Kd.C_drewN HX6.out _) hB7 : Kd.C (Kd.slice 5 (Kd.int .u8)) w7 A6 x.length x); have HB7 := Aside0.mk (by first | exact below_step HB6.out hB7 | exact below_step (below_drew HB6.out) hB7 | exact below_step (pw_below_drewN HB6.out _) hB7 : Below w3.heap.size w3 w7); have HS7 := Aside0.mk (HQ.out.below HB7.out HG1.out); have HR7 := Aside0.mk hR7; clear hB7 hR7 hg7))
    all_goals
      go_wp2
      have HBg := Aside0.mk (RgB.lt HR7.out)
      have HG7 := Aside0.mk (Nat.lt_of_lt_of_le HG2.out HB7.out.size)
      have HQ2 := Aside0.mk (HeldR.of (blk_below HK2.out HB7.out))
      have HR1b := Aside0.mk (Kd.C_below HR1.out HB7.out)
      obtain ⟨q3, q4, q5⟩ := HQ2.out
      clear q0 q1 q2 HQ HS7 HS6 HX6 HX6c HB6
      cases o2 with
      | false =>
        obtain ⟨s, hs⟩ := newOk_false ho2
        have HS := Aside0.mk hs
        have hr : r = false := by rw [if_neg (by decide)] at h; exact (Option.some.inj h).symm
        subst hr
        clear hs h ho2
        go_region_held3 (fun w' => w'.cell? ⟨ga, 0, none⟩ = some (.int .u64 a1_0) ∧ w'.cell? ⟨ga, 1, none⟩ = some (.int .u64 a1_1) ∧ w'.cell? ⟨ga, 2, none⟩ = some (.slice A1_2 l1_2.length c1_2)) (first | exact HS9.out | exact HS8.out | go_keep)
          (first
            | (go_at_call 23; (with_reducible refine (impl_texts.calls k A1_2 c1_2 l1_2 y _ ?side1 HC1.out HY.out).mono ?_); (case side1 => first | exact HR1b.out | exact Kd.C_drew HR1b.out | exact Kd.C_drewN HR1b.out _); rintro e' w8 ⟨v8, rfl, hS8, hB8⟩; have hR8 := Kd.S_R hS8; obtain ⟨A8, c8, rfl⟩ := Kd.R_slice hR8; have hb8 : Below w7.heap.size w7 w8 := (by first | exact hB8 | exact below_step (below_drew (Below.refl _ _)) hB8 | exact below_step (pw_below_drewN (Below.refl _ _) _) hB8); have HB8 := Aside0.mk hb8; have HS8 := Aside0.mk (HQ2.out.below hb8 HG7.out); have HY8 := Aside0.mk (Kd.R_reads' hR8).2.2; clear hS8 hB8 hb8 hR8)
            | (go_at_call 22; (with_reducible refine (compact_NewRange.bad _ a1_0 a1_1 A8 y.length c8 _ s HS.out).mono ?_); rintro e' w9 ⟨T_, X_, rfl, hB9⟩; have HB9 := Aside0.mk (by first | exact below_step HB8.out hB9 | exact below_step (below_drew HB8.out) hB9 | exact below_step (pw_below_drewN HB8.out _) hB9 : Below w7.heap.size w7 w9); have HS9 := Aside0.mk (HQ2.out.below HB9.out HG7.out); clear hB9; simp only [errW_some]))
        all_goals
          go_wp2
          go_ret
          exact ⟨rfl, by have hgw := HGW.out; subst hgw; first | exact (below_step (below_step HB3.out HB7.out) HB9.out) | exact below_drew (below_step (below_step HB3.out HB7.out) HB9.out) | exact pw_below_drewN (below_step (below_step HB3.out HB7.out) HB9.out) _⟩
      | true =>
        obtain ⟨hbe, hsz⟩ := newOk_true ho2
        have HBE2 := Aside0.mk hbe
        have HSZ2 := Aside0.mk hsz
        rw [if_pos rfl] at h
        have HE := Aside0.mk h
        clear hbe hsz ho2 h
        go_region_held3 (fun w' => w'.cell? ⟨ga, 0, none⟩ = some (.int .u64 a1_0) ∧ w'.cell? ⟨ga, 1, none⟩ = some (.int .u64 a1_1) ∧ w'.cell? ⟨ga, 2, none⟩ = some (.slice A1_2 l1_2.length c1_2)) (first | exact HS9.out | exact HS8.out | go_keep)
          (first
            | (go_at_call 23; (with_reducible refine (impl_texts.calls k A1_2 c1_2 l1_2 y _ ?side1 HC1.out HY.out).mono ?_); (case side1 => first | exact HR1b.out | exact Kd.C_drew HR1b.out | exact Kd.C_drewN HR1b.out _); rintro e' w8 ⟨v8, rfl, hS8, hB8⟩; have hR8 := Kd.S_R hS8; obtain ⟨A8, c8, rfl⟩ := Kd.R_slice hR8; have hb8 : Below w7.heap.size w7 w8 := (by first | exact hB8 | exact below_step (below_drew (Below.refl _ _)) hB8 | exact below_step (pw_below_drewN (Below.refl _ _) _) hB8); have HB8 := Aside0.mk hb8; have HS8 := Aside0.mk (HQ2.out.below hb8 HG7.out); have HY8 := Aside0.mk (Kd.R_reads' hR8).2.2; clear hS8 hB8 hb8 hR8)
            | (go_at_call 22; (with_reducible refine (compact_NewRange.good _ a1_0 a1_1 A8 y.length c8 _ HBE2.out HSZ2.out).mono ?_); rintro e' w9 ⟨g9, rfl, hg9, hR9, hB9⟩; have HY9 := Aside0.mk (by first | exact Kd.C_below HY8.out hB9 | exact Kd.C_below (Kd.C_drew HY8.out) hB9 | exact Kd.C_below (Kd.C_drewN HY8.out _) hB9 : Kd.C (Kd.slice 5 (Kd.int .u8)) w9 A8 y.length y); have HB9 := Aside0.mk (by first | exact below_step HB8.out hB9 | exact below_step (below_drew HB8.out) hB9 | exact below_step (pw_below_drewN HB8.out _) hB9 : Below w7.heap.size w7 w9); have HS9 := Aside0.mk (HQ2.out.below HB9.out HG7.out); have HR9a := Aside0.mk (RgB.below HR7.out HB9.out); have HX9 := Aside0.mk (Kd.C_below HX7.out HB9.out); have HR9 := Aside0.mk hR9; clear hB9 hR9 hg9))
        all_goals
          go_wp2_with (go_at_call 24; (with_reducible refine (compact_Range_Equal.calls k g7 g9 ⟨gf, 0, none⟩ a0_0 a0_1 a1_0 a1_1 A6 A8 c6 c8 x y r _ ?side1 ?side2 ?side3 ?side4 HE.out).mono ?_); (case side1 => exact HR9a.out); (case side2 => exact HR9.out); (case side3 => exact HX9.out); (case side4 => exact HY9.out); rintro e' w' ⟨rfl, ⟨nq, rfl⟩⟩)
          go_ret
          exact ⟨rfl, by have hgw := HGW.out; subst hgw; exact pw_below_drewN (below_step (below_step HB3.out HB7.out) HB9.out) nq⟩

end Go.Proofs.Ytkmdkmlgahfcpaa.M
