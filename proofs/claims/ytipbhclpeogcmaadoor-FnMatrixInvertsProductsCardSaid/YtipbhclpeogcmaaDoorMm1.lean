-- Written by a program of ours (wip/xp) out of the translation; Lean checks it.
import Derived.Test.YtipbhclpeogcmaaDoorProg
import Derived.Below
import Derived.Deep.Draws
import Derived.Deep.AppendLies
import Derived.Maps.AppendAt
import Derived.OwnWalk
import Derived.Laws.BytesArg
import Derived.Laws.MakeOwn
import Derived.Laws.OwnMore
import Derived.Deep.OwnRows
import Derived.Tactics
import Derived.Lib.ConvBytes
import Derived.Laws.Slices
import Derived.WalkKit
import Derived.KernelRfl
import Derived.RowKit3
import Derived.Deep.LoopGhost
import Derived.Deep.QuietTactic
import Derived.BigQuiet
import Derived.WideLaws
import Derived.Deep.DeepCutAuto
import Derived.Deep.CutBlock
import Derived.Deep.RegionHeld3
import Derived.Laws.Rows
import Derived.Lib.AppendStr
import Derived.ArgAppend
import Derived.Laws.IdiomCopy
import Derived.OrdersHeld
import Derived.Laws.BitsLemmas
import Derived.RowKit
import Derived.Test.YtipbhclpeogcmaaDoorTabN
import Derived.Handy
import Derived.Laws.BitsAllLaws
import Derived.RegionTactic
import Derived.ChangeAlike
import Derived.Deep.RegionLaw
import Derived.Test.YtipbhclpeogcmaaDoorWWords
import Derived.Test.YtipbhclpeogcmaaDoorSq
import Derived.Test.YtipbhclpeogcmaaDoorWLast
import Derived.Test.YtipbhclpeogcmaaDoorWTab
import Derived.Test.YtipbhclpeogcmaaDoorWQPut
import Derived.Test.YtipbhclpeogcmaaDoorWApart
import Derived.Test.YtipbhclpeogcmaaDoorWArr
import Derived.Test.YtipbhclpeogcmaaDoorWZeros
import Derived.Test.YtipbhclpeogcmaaDoorWFoot
import Derived.Test.YtipbhclpeogcmaaDoorWKept
import Derived.Test.YtipbhclpeogcmaaDoorWShare
import Derived.Test.YtipbhclpeogcmaaDoorWN
import Derived.Test.YtipbhclpeogcmaaDoorWAt
import Derived.Test.YtipbhclpeogcmaaDoorWRepsOne
import Derived.Test.YtipbhclpeogcmaaDoorWGuard
import Derived.Test.YtipbhclpeogcmaaDoorWNEv
import Derived.Test.YtipbhclpeogcmaaDoorWMore
namespace Go.Proofs.YtipbhclpeogcmaaDoor.M
open Go.RowKit Go.Proofs.YtipbhclpeogcmaaDoorW.PrintWords Go.Proofs.YtipbhclpeogcmaaDoorW.PrintLast Go.Proofs.YtipbhclpeogcmaaDoorW.PrintMore
attribute [local go_sem] max2_int min2_int max_two min_two max_three min_three max_four min_four   -- for this text's walks alone
set_option linter.unusedVariables false
set_option linter.unusedSimpArgs false



def errW (T : Int → TypeId) (X : Int → Value) : Option Int → Value
 | none => .nilIface
 | some c => .iface (T c) (X c)
theorem errW_none (T : Int → TypeId) (X : Int → Value) : errW T X none = .nilIface := rfl
theorem errW_some (T : Int → TypeId) (X : Int → Value) (c : Int) : errW T X (some c) = .iface (T c) (X c) := rfl

theorem info5 : (Tryd.prog.info? 5).map (fun i => (i.zero, i.size, i.bytes)) = some (some (.int .u8 0), 1, 1) := by kernel_rfl
theorem info22 : (Tryd.prog.info? 22).map (fun i => (i.zero, i.size, i.bytes)) = some (some (.slice none 0 0), 1, 24) := by kernel_rfl
theorem info31 : (Tryd.prog.info? 31).map (fun i => (i.zero, i.size, i.bytes)) = some (some (.slice none 0 0), 1, 24) := by kernel_rfl
-- the values' own types
def rd_L1 (xs : List (List Int)) (i : Int) : (List Int) := xs.getD i.toNat ([] : List Int)
theorem at_L1 {w : World} {A : Option Addr} {n : Nat} {xs : List (List Int)} (h : Kd.C (Kd.slice 5 (Kd.int .u8)) w A n xs) (i : Int) (h0 : 0 ≤ i) (h1 : i < n) : ∃ ad A0 c0, A = some ad ∧ w.cell? (ad.add i.toNat) = some (.slice A0 (rd_L1 xs i).length c0) ∧ (rd_L1 xs i).length ≤ c0 ∧ (Kd.int .u8).C w A0 (rd_L1 xs i).length (rd_L1 xs i) := by
 obtain ⟨ad, c, e, _, hK, hc0⟩ := Kd.C_get h ([] : List Int) i h0 h1
 have hc : ∀ j u, c[j]? = some u → w.cell? (ad.add (i.toNat * 1 + j)) = some u := hc0
 obtain ⟨A0, c0, rfl, l0, g0⟩ := hK
 exact ⟨ad, A0, c0, e, by have hq := hc 0 _ rfl; rwa [Nat.mul_one, Nat.add_zero] at hq, l0, g0⟩

def rd_L2 (xs : List (List (List Int))) (i : Int) : (List (List Int)) := xs.getD i.toNat ([] : List (List Int))
theorem at_L2 {w : World} {A : Option Addr} {n : Nat} {xs : List (List (List Int))} (h : Kd.C (Kd.slice 22 (Kd.slice 5 (Kd.int .u8))) w A n xs) (i : Int) (h0 : 0 ≤ i) (h1 : i < n) : ∃ ad A0 c0, A = some ad ∧ w.cell? (ad.add i.toNat) = some (.slice A0 (rd_L2 xs i).length c0) ∧ (rd_L2 xs i).length ≤ c0 ∧ (Kd.slice 5 (Kd.int .u8)).C w A0 (rd_L2 xs i).length (rd_L2 xs i) := by
 obtain ⟨ad, c, e, _, hK, hc0⟩ := Kd.C_get h ([] : List (List Int)) i h0 h1
 have hc : ∀ j u, c[j]? = some u → w.cell? (ad.add (i.toNat * 1 + j)) = some u := hc0
 obtain ⟨A0, c0, rfl, l0, g0⟩ := hK
 exact ⟨ad, A0, c0, e, by have hq := hc 0 _ rfl; rwa [Nat.mul_one, Nat.add_zero] at hq, l0, g0⟩


/-! ### spec_EqualMatrices: function 17 -/
mutual
def spec_EqualMatrices.l0 : Nat → List (List Int) → List (List Int) → Int → Int → Option (Bool)
 | 0, _, _, _, _ => none
 | k + 1, x0, x1, x13, x14 => if x14 < x13 then (if 0 ≤ x14 then (if x14 < (x0.length : Int) then (if x14 < (x1.length : Int) then (if ((rd_L1 x0 x14).length : Int) = ((rd_L1 x1 x14).length : Int) then (spec_EqualMatrices.l1 k x0 x1 x14 x13 x14 ((rd_L1 x0 x14).length : Int) 0) else (some false)) else (none)) else (none)) else (none)) else (some true)
def spec_EqualMatrices.l1 : Nat → List (List Int) → List (List Int) → Int → Int → Int → Int → Int → Option (Bool)
 | 0, _, _, _, _, _, _, _ => none
 | k + 1, x0, x1, x5, x13, x14, x32, x33 => if x33 < x32 then (if 0 ≤ x5 then (if x5 < (x0.length : Int) then (if 0 ≤ x33 then (if x33 < ((rd_L1 x0 x5).length : Int) then (if x5 < (x1.length : Int) then (if x33 < ((rd_L1 x1 x5).length : Int) then (if (rd (rd_L1 x0 x5) x33) = (rd (rd_L1 x1 x5) x33) then (spec_EqualMatrices.l1 k x0 x1 x5 x13 x14 x32 (wrap64 (x33 + 1))) else (some false)) else (none)) else (none)) else (none)) else (none)) else (none)) else (none)) else (spec_EqualMatrices.l0 k x0 x1 x13 (wrap64 (x14 + 1)))
end
def spec_EqualMatrices.f (k : Nat) (l0 : List (List Int)) (l1 : List (List Int)) : Option (Bool) := if (l0.length : Int) = (l1.length : Int) then (spec_EqualMatrices.l0 k l0 l1 (l0.length : Int) 0) else (some false)
theorem spec_EqualMatrices.mono_l : ∀ k, (∀ y0 y1 y2 y3, LeO (spec_EqualMatrices.l0 k y0 y1 y2 y3) (spec_EqualMatrices.l0 (k + 1) y0 y1 y2 y3)) ∧ (∀ y0 y1 y2 y3 y4 y5 y6, LeO (spec_EqualMatrices.l1 k y0 y1 y2 y3 y4 y5 y6) (spec_EqualMatrices.l1 (k + 1) y0 y1 y2 y3 y4 y5 y6))
 | 0 => ⟨fun _ _ _ _ r h => by simp [spec_EqualMatrices.l0] at h, fun _ _ _ _ _ _ _ r h => by simp [spec_EqualMatrices.l1] at h⟩
 | k + 1 => by
  obtain ⟨ih0, ih1⟩ := spec_EqualMatrices.mono_l k
  refine ⟨?_, ?_⟩
  ·intro y0 y1 y2 y3
   unfold spec_EqualMatrices.l0
   repeat' first
   | (with_reducible exact ih0 _ _ _ _)
   | (with_reducible exact ih1 _ _ _ _ _ _ _)
   | (with_reducible exact LeO.refl _)
   | (with_reducible exact LeO.none _)
   | (with_reducible refine LeO.ite ?_ ?_)
   | (with_reducible refine LeO.bind ?_ (fun _ => ?_))
   | exact ih0 _ _ _ _
   | exact ih1 _ _ _ _ _ _ _
   | exact LeO.none _
   | refine LeO.ite ?_ ?_
   | refine LeO.bind ?_ (fun _ => ?_)
  ·intro y0 y1 y2 y3 y4 y5 y6
   unfold spec_EqualMatrices.l1
   repeat' first
   | (with_reducible exact ih0 _ _ _ _)
   | (with_reducible exact ih1 _ _ _ _ _ _ _)
   | (with_reducible exact LeO.refl _)
   | (with_reducible exact LeO.none _)
   | (with_reducible refine LeO.ite ?_ ?_)
   | (with_reducible refine LeO.bind ?_ (fun _ => ?_))
   | exact ih0 _ _ _ _
   | exact ih1 _ _ _ _ _ _ _
   | exact LeO.none _
   | refine LeO.ite ?_ ?_
   | refine LeO.bind ?_ (fun _ => ?_)
theorem spec_EqualMatrices.mono : ∀ a0 a1 k, LeO (spec_EqualMatrices.f k a0 a1) (spec_EqualMatrices.f (k + 1) a0 a1) := by
 intro a0 a1 k
 obtain ⟨ih0, ih1⟩ := spec_EqualMatrices.mono_l k
 unfold spec_EqualMatrices.f
 repeat' first
   | (with_reducible exact ih0 _ _ _ _)
   | (with_reducible exact ih1 _ _ _ _ _ _ _)
   | (with_reducible exact LeO.refl _)
   | (with_reducible exact LeO.none _)
   | (with_reducible refine LeO.ite ?_ ?_)
   | (with_reducible refine LeO.bind ?_ (fun _ => ?_))
   | exact ih0 _ _ _ _
   | exact ih1 _ _ _ _ _ _ _
   | exact LeO.none _
   | refine LeO.ite ?_ ?_
   | refine LeO.bind ?_ (fun _ => ?_)
set_option maxHeartbeats 8000000 in
set_option maxRecDepth 100000 in
theorem spec_EqualMatrices.calls (k : Nat) (A0 : Option Addr) (c0 : Nat) (l0 : List (List Int)) (A1 : Option Addr) (c1 : Nat) (l1 : List (List Int)) (r : Bool) (w : World) (hr0 : Kd.C (Kd.slice 5 (Kd.int .u8)) w A0 l0.length l0) (hc0 : l0.length ≤ c0) (hr1 : Kd.C (Kd.slice 5 (Kd.int .u8)) w A1 l1.length l1) (hc1 : l1.length ≤ c1) (h : spec_EqualMatrices.f k l0 l1 = some r) :
  Calls Tryd.prog 17 #[.slice A0 l0.length c0, .slice A1 l1.length c1] w fun e w' => e = .returned (.bool r) ∧ Drawn0 w w' := by
 have HR0 := Aside0.mk hr0
 have HC0 := Aside0.mk hc0
 clear hr0 hc0
 have HR1 := Aside0.mk hr1
 have HC1 := Aside0.mk hc1
 clear hr1 hc1
 have H : (if (l0.length : Int) = (l1.length : Int) then (spec_EqualMatrices.l0 k l0 l1 (l0.length : Int) 0) else (some false)) = some r := h
 clear h
 by_cases c3 : (l0.length : Int) = (l1.length : Int)
 ·rw [if_pos c3] at H
  have c3b0 : ((l0.length : Int) == (l1.length : Int)) = true := beq_iff_eq.mpr c3
  have c3b1 : ((l0.length : Int) != (l1.length : Int)) = false := bne_eq_false_iff_eq.mpr c3
  have c3b2 : (l0.length == l1.length) = true := by first | simpa using c3 | (simp at c3 ⊢; omega)
  clear c3
  have H' := Aside0.mk H
  clear H
  go_enter Tryd.func17, Tryd.ntmps17
  go_wp2
  repeat (go_quiet (fail); try go_wp2)
  go_loopg [14] k (fun kq v14 w' => ∃ (x14_1 : Int), v14 = .int .i64 x14_1 ∧ Aside0 (spec_EqualMatrices.l0 kq l0 l1 (l0.length : Int) x14_1 = some r) ∧ Aside0 (kq ≤ k) ∧ Drawn0 w w')
  case atStart => exact ⟨(0), (by first | rfl | (simp; done) | (simp [*]; done)), H', ⟨Nat.le_refl _⟩, by repeat (first | exact Drawn0.refl _ | apply Drawn0.step)⟩
  case round =>
   clear H'
   try clear c1
   try clear p2
   try clear c3
   try clear c3b0
   try clear c3b1
   try clear c3b2
   obtain ⟨x14_1, rfl, HA, HK1, ⟨m1, rfl⟩⟩ := hrel
   cases gk with
   | zero => exact absurd HA.out (by simp [spec_EqualMatrices.l0])
   | succ k1 =>
    have H := HA.out
    clear HA
    simp only [spec_EqualMatrices.l0] at H
    by_cases c4 : x14_1 < (l0.length : Int)
    ·rw [if_pos c4] at H
     have c4b0 : decide (x14_1 < (l0.length : Int)) = true := decide_eq_true c4
     clear c4
     by_cases c5 : 0 ≤ x14_1
     ·rw [if_pos c5] at H
      have c5b0 : decide (0 ≤ x14_1) = true := decide_eq_true c5
      clear c5
      by_cases c6 : x14_1 < (l0.length : Int)
      ·rw [if_pos c6] at H
       have c6b0 : decide (x14_1 < (l0.length : Int)) = true := decide_eq_true c6
       clear c6
       by_cases c7 : x14_1 < (l1.length : Int)
       ·rw [if_pos c7] at H
        have c7b0 : decide (x14_1 < (l1.length : Int)) = true := decide_eq_true c7
        clear c7
        by_cases c8 : ((rd_L1 l0 x14_1).length : Int) = ((rd_L1 l1 x14_1).length : Int)
        ·rw [if_pos c8] at H
         have c8b0 : (((rd_L1 l0 x14_1).length : Int) == ((rd_L1 l1 x14_1).length : Int)) = true := beq_iff_eq.mpr c8
         have c8b1 : (((rd_L1 l0 x14_1).length : Int) != ((rd_L1 l1 x14_1).length : Int)) = false := bne_eq_false_iff_eq.mpr c8
         have c8b2 : ((rd_L1 l0 x14_1).length == (rd_L1 l1 x14_1).length) = true := by first | simpa using c8 | (simp at c8 ⊢; omega)
         clear c8
         have H' := Aside0.mk H
         clear H
         have p101 : 0 ≤ (x14_1 : Int) := dA
         have q101 : x14_1 < (l0.length : Int) := dA
         obtain ⟨ad101, A101_0, c101_0, e101, hx101_0, hl101_0, hi101_0⟩ := at_L1 HR0.out x14_1 p101 q101
         cases e101
         have HR101_0 := Aside0.mk hi101_0
         have HC101_0 := Aside0.mk hl101_0
         clear hi101_0 hl101_0
         replace p101 := eq_true p101
         replace q101 := eq_true q101
         have p102 : 0 ≤ (x14_1 : Int) := dA
         have q102 : x14_1 < (l1.length : Int) := dA
         obtain ⟨ad102, A102_0, c102_0, e102, hx102_0, hl102_0, hi102_0⟩ := at_L1 HR1.out x14_1 p102 q102
         cases e102
         have HR102_0 := Aside0.mk hi102_0
         have HC102_0 := Aside0.mk hl102_0
         clear hi102_0 hl102_0
         replace p102 := eq_true p102
         replace q102 := eq_true q102
         have p103 : 0 ≤ (x14_1 : Int) := dA
         have q103 : x14_1 < (l0.length : Int) := dA
         obtain ⟨ad103, A103_0, c103_0, e103, hx103_0, hl103_0, hi103_0⟩ := at_L1 HR0.out x14_1 p103 q103
         obtain rfl : ad101 = ad103 := (by injection e103)
         have HR103_0 := Aside0.mk hi103_0
         have HC103_0 := Aside0.mk hl103_0
         clear hi103_0 hl103_0
         replace p103 := eq_true p103
         replace q103 := eq_true q103
         have ea_ := Option.some.inj (hx101_0.symm.trans hx103_0)
         injection ea_ with ea_ en_ ec_
         subst ea_
         subst ec_
         clear en_
         go_wp2
         repeat (go_quiet (fail); try go_wp2)
         go_loopg [33] k1 (fun kq v33 w' => ∃ (x33_2 : Int), v33 = .int .i64 x33_2 ∧ Aside0 (spec_EqualMatrices.l1 kq l0 l1 x14_1 (l0.length : Int) x14_1 ((rd_L1 l0 x14_1).length : Int) x33_2 = some r) ∧ Aside0 (kq ≤ k1) ∧ Drawn0 w w')
         case atStart => exact ⟨(0), (by first | rfl | (simp; done) | (simp [*]; done)), H', ⟨Nat.le_refl _⟩, by repeat (first | exact Drawn0.refl _ | apply Drawn0.step)⟩
         case round =>
          clear H'
          try clear c1
          try clear p1
          try clear q1
          try clear hx1
          try clear p2
          try clear c3
          try clear c3b0
          try clear c3b1
          try clear c3b2
          try clear c4
          try clear c4b0
          try clear c5
          try clear c5b0
          try clear c6
          try clear c6b0
          try clear c7
          try clear c7b0
          try clear c8
          try clear c8b0
          try clear c8b1
          try clear c8b2
          try clear hx101_0
          try clear hx102_0
          try clear hx103_0
          try clear p101
          try clear p102
          try clear p103
          try clear p2
          try clear q101
          try clear q102
          try clear q103
          obtain ⟨x33_2, rfl, HA, HK2, ⟨m2, rfl⟩⟩ := hrel
          cases gk with
          | zero => exact absurd HA.out (by simp [spec_EqualMatrices.l1])
          | succ k2 =>
           have H := HA.out
           clear HA
           simp only [spec_EqualMatrices.l1] at H
           by_cases c9 : x33_2 < ((rd_L1 l0 x14_1).length : Int)
           ·rw [if_pos c9] at H
            have c9b0 : decide (x33_2 < ((rd_L1 l0 x14_1).length : Int)) = true := decide_eq_true c9
            clear c9
            by_cases c10 : 0 ≤ x14_1
            ·rw [if_pos c10] at H
             have c10b0 : decide (0 ≤ x14_1) = true := decide_eq_true c10
             clear c10
             by_cases c11 : x14_1 < (l0.length : Int)
             ·rw [if_pos c11] at H
              have c11b0 : decide (x14_1 < (l0.length : Int)) = true := decide_eq_true c11
              clear c11
              by_cases c12 : 0 ≤ x33_2
              ·rw [if_pos c12] at H
               have c12b0 : decide (0 ≤ x33_2) = true := decide_eq_true c12
               clear c12
               by_cases c13 : x33_2 < ((rd_L1 l0 x14_1).length : Int)
               ·rw [if_pos c13] at H
                have c13b0 : decide (x33_2 < ((rd_L1 l0 x14_1).length : Int)) = true := decide_eq_true c13
                clear c13
                by_cases c14 : x14_1 < (l1.length : Int)
                ·rw [if_pos c14] at H
                 have c14b0 : decide (x14_1 < (l1.length : Int)) = true := decide_eq_true c14
                 clear c14
                 by_cases c15 : x33_2 < ((rd_L1 l1 x14_1).length : Int)
                 ·rw [if_pos c15] at H
                  have c15b0 : decide (x33_2 < ((rd_L1 l1 x14_1).length : Int)) = true := decide_eq_true c15
                  clear c15
                  by_cases c16 : (rd (rd_L1 l0 x14_1) x33_2) = (rd (rd_L1 l1 x14_1) x33_2)
                  ·rw [if_pos c16] at H
                   have c16b0 : ((rd (rd_L1 l0 x14_1) x33_2) == (rd (rd_L1 l1 x14_1) x33_2)) = true := beq_iff_eq.mpr c16
                   have c16b1 : ((rd (rd_L1 l0 x14_1) x33_2) != (rd (rd_L1 l1 x14_1) x33_2)) = false := bne_eq_false_iff_eq.mpr c16
                   clear c16
                   have H' := Aside0.mk H
                   clear H
                   have p104 : 0 ≤ (x14_1 : Int) := dA
                   have q104 : x14_1 < (l0.length : Int) := dA
                   obtain ⟨ad104, A104_0, c104_0, e104, hx104_0, hl104_0, hi104_0⟩ := at_L1 HR0.out x14_1 p104 q104
                   obtain rfl : ad101 = ad104 := (by injection e104)
                   have HR104_0 := Aside0.mk hi104_0
                   have HC104_0 := Aside0.mk hl104_0
                   clear hi104_0 hl104_0
                   replace p104 := eq_true p104
                   replace q104 := eq_true q104
                   have p105 : 0 ≤ (x33_2 : Int) := dA
                   have q105 : x33_2 < ((rd_L1 l0 x14_1).length : Int) := dA
                   obtain ⟨ad105, e105, hx105_0⟩ := Kd.at_int HR104_0.out x33_2 p105 q105
                   cases e105
                   replace p105 := eq_true p105
                   replace q105 := eq_true q105
                   have p106 : 0 ≤ (x14_1 : Int) := dA
                   have q106 : x14_1 < (l1.length : Int) := dA
                   obtain ⟨ad106, A106_0, c106_0, e106, hx106_0, hl106_0, hi106_0⟩ := at_L1 HR1.out x14_1 p106 q106
                   obtain rfl : ad102 = ad106 := (by injection e106)
                   have HR106_0 := Aside0.mk hi106_0
                   have HC106_0 := Aside0.mk hl106_0
                   clear hi106_0 hl106_0
                   replace p106 := eq_true p106
                   replace q106 := eq_true q106
                   have p107 : 0 ≤ (x33_2 : Int) := dA
                   have q107 : x33_2 < ((rd_L1 l1 x14_1).length : Int) := dA
                   obtain ⟨ad107, e107, hx107_0⟩ := Kd.at_int HR106_0.out x33_2 p107 q107
                   cases e107
                   replace p107 := eq_true p107
                   replace q107 := eq_true q107
                   go_wp2
                   repeat (go_quiet (fail); try go_wp2)
                   go_roundg k2
                   case measure => have := HK1.out; have := HK2.out; omega
                   case rel => exact ⟨(wrap64 (x33_2 + 1)), (by first | rfl | (simp; done) | (simp [*]; done)), H', ⟨by have := HK1.out; have := HK2.out; omega⟩, by repeat (first | exact Drawn0.refl _ | apply Drawn0.step)⟩
                  ·rw [if_neg c16] at H
                   have c16b0 : ((rd (rd_L1 l0 x14_1) x33_2) == (rd (rd_L1 l1 x14_1) x33_2)) = false := beq_eq_false_iff_ne.mpr c16
                   have c16b1 : ((rd (rd_L1 l0 x14_1) x33_2) != (rd (rd_L1 l1 x14_1) x33_2)) = true := bne_iff_ne.mpr c16
                   obtain rfl := Option.some.inj H
                   have p104 : 0 ≤ (x14_1 : Int) := dA
                   have q104 : x14_1 < (l0.length : Int) := dA
                   obtain ⟨ad104, A104_0, c104_0, e104, hx104_0, hl104_0, hi104_0⟩ := at_L1 HR0.out x14_1 p104 q104
                   obtain rfl : ad101 = ad104 := (by injection e104)
                   have HR104_0 := Aside0.mk hi104_0
                   have HC104_0 := Aside0.mk hl104_0
                   clear hi104_0 hl104_0
                   replace p104 := eq_true p104
                   replace q104 := eq_true q104
                   have p105 : 0 ≤ (x33_2 : Int) := dA
                   have q105 : x33_2 < ((rd_L1 l0 x14_1).length : Int) := dA
                   obtain ⟨ad105, e105, hx105_0⟩ := Kd.at_int HR104_0.out x33_2 p105 q105
                   cases e105
                   replace p105 := eq_true p105
                   replace q105 := eq_true q105
                   have p106 : 0 ≤ (x14_1 : Int) := dA
                   have q106 : x14_1 < (l1.length : Int) := dA
                   obtain ⟨ad106, A106_0, c106_0, e106, hx106_0, hl106_0, hi106_0⟩ := at_L1 HR1.out x14_1 p106 q106
                   obtain rfl : ad102 = ad106 := (by injection e106)
                   have HR106_0 := Aside0.mk hi106_0
                   have HC106_0 := Aside0.mk hl106_0
                   clear hi106_0 hl106_0
                   replace p106 := eq_true p106
                   replace q106 := eq_true q106
                   have p107 : 0 ≤ (x33_2 : Int) := dA
                   have q107 : x33_2 < ((rd_L1 l1 x14_1).length : Int) := dA
                   obtain ⟨ad107, e107, hx107_0⟩ := Kd.at_int HR106_0.out x33_2 p107 q107
                   cases e107
                   replace p107 := eq_true p107
                   replace q107 := eq_true q107
                   go_wp2
                   repeat (go_quiet (fail); try go_wp2)
                   go_ret
                   exact ⟨by first | rfl | (simp; done) | (simp [*]; done), by repeat (first | exact Drawn0.refl _ | apply Drawn0.step)⟩
                 ·rw [if_neg c15] at H
                  exact absurd H (by simp)
                ·rw [if_neg c14] at H
                 exact absurd H (by simp)
               ·rw [if_neg c13] at H
                exact absurd H (by simp)
              ·rw [if_neg c12] at H
               exact absurd H (by simp)
             ·rw [if_neg c11] at H
              exact absurd H (by simp)
            ·rw [if_neg c10] at H
             exact absurd H (by simp)
           ·rw [if_neg c9] at H
            have c9b0 : decide (x33_2 < ((rd_L1 l0 x14_1).length : Int)) = false := decide_eq_false c9
            clear c9
            have H' := Aside0.mk H
            clear H
            go_wp2
            repeat (go_quiet (fail); try go_wp2)
            go_roundg k2
            case measure => have := HK1.out; have := HK2.out; omega
            case rel => exact ⟨(wrap64 (x14_1 + 1)), (by first | rfl | (simp; done) | (simp [*]; done)), H', ⟨by have := HK1.out; have := HK2.out; omega⟩, by repeat (first | exact Drawn0.refl _ | apply Drawn0.step)⟩
        ·rw [if_neg c8] at H
         have c8b0 : (((rd_L1 l0 x14_1).length : Int) == ((rd_L1 l1 x14_1).length : Int)) = false := beq_eq_false_iff_ne.mpr c8
         have c8b1 : (((rd_L1 l0 x14_1).length : Int) != ((rd_L1 l1 x14_1).length : Int)) = true := bne_iff_ne.mpr c8
         have c8b2 : ((rd_L1 l0 x14_1).length == (rd_L1 l1 x14_1).length) = false := by first | simpa using c8 | (simp at c8 ⊢; omega)
         obtain rfl := Option.some.inj H
         have p101 : 0 ≤ (x14_1 : Int) := dA
         have q101 : x14_1 < (l0.length : Int) := dA
         obtain ⟨ad101, A101_0, c101_0, e101, hx101_0, hl101_0, hi101_0⟩ := at_L1 HR0.out x14_1 p101 q101
         cases e101
         have HR101_0 := Aside0.mk hi101_0
         have HC101_0 := Aside0.mk hl101_0
         clear hi101_0 hl101_0
         replace p101 := eq_true p101
         replace q101 := eq_true q101
         have p102 : 0 ≤ (x14_1 : Int) := dA
         have q102 : x14_1 < (l1.length : Int) := dA
         obtain ⟨ad102, A102_0, c102_0, e102, hx102_0, hl102_0, hi102_0⟩ := at_L1 HR1.out x14_1 p102 q102
         cases e102
         have HR102_0 := Aside0.mk hi102_0
         have HC102_0 := Aside0.mk hl102_0
         clear hi102_0 hl102_0
         replace p102 := eq_true p102
         replace q102 := eq_true q102
         go_wp2
         repeat (go_quiet (fail); try go_wp2)
         go_ret
         exact ⟨by first | rfl | (simp; done) | (simp [*]; done), by repeat (first | exact Drawn0.refl _ | apply Drawn0.step)⟩
       ·rw [if_neg c7] at H
        exact absurd H (by simp)
      ·rw [if_neg c6] at H
       exact absurd H (by simp)
     ·rw [if_neg c5] at H
      exact absurd H (by simp)
    ·rw [if_neg c4] at H
     have c4b0 : decide (x14_1 < (l0.length : Int)) = false := decide_eq_false c4
     clear c4
     obtain rfl := Option.some.inj H
     go_wp2
     repeat (go_quiet (fail); try go_wp2)
     go_ret
     exact ⟨by first | rfl | (simp; done) | (simp [*]; done), by repeat (first | exact Drawn0.refl _ | apply Drawn0.step)⟩
 ·rw [if_neg c3] at H
  have c3b0 : ((l0.length : Int) == (l1.length : Int)) = false := beq_eq_false_iff_ne.mpr c3
  have c3b1 : ((l0.length : Int) != (l1.length : Int)) = true := bne_iff_ne.mpr c3
  have c3b2 : (l0.length == l1.length) = false := by first | simpa using c3 | (simp at c3 ⊢; omega)
  obtain rfl := Option.some.inj H
  go_enter Tryd.func17, Tryd.ntmps17
  go_wp2
  repeat (go_quiet (fail); try go_wp2)
  go_ret
  exact ⟨by first | rfl | (simp; done) | (simp [*]; done), by repeat (first | exact Drawn0.refl _ | apply Drawn0.step)⟩


/-! ### laws_zzFits2: function 19 -/
def laws_zzFits2.l0 : Nat → List (List Int) → Int → Int → Option (Bool)
 | 0, _, _, _ => none
 | k + 1, x8, x9, x10 => if x10 < x9 then (if 0 ≤ x10 then (if x10 < (x8.length : Int) then (if ((rd_L1 x8 x10).length : Int) > 2147483647 then (some false) else (laws_zzFits2.l0 k x8 x9 (wrap64 (x10 + 1)))) else (none)) else (none)) else (some true)
def laws_zzFits2.f (k : Nat) (l0 : List (List Int)) : Option (Bool) := if (l0.length : Int) > 2147483647 then (some false) else (laws_zzFits2.l0 k l0 (l0.length : Int) 0)
theorem laws_zzFits2.mono_l : ∀ k, (∀ y0 y1 y2, LeO (laws_zzFits2.l0 k y0 y1 y2) (laws_zzFits2.l0 (k + 1) y0 y1 y2))
 | 0 => fun _ _ _ r h => by simp [laws_zzFits2.l0] at h
 | k + 1 => by
  have ih0 := laws_zzFits2.mono_l k
  ·intro y0 y1 y2
   unfold laws_zzFits2.l0
   repeat' first
   | (with_reducible exact ih0 _ _ _)
   | (with_reducible exact LeO.refl _)
   | (with_reducible exact LeO.none _)
   | (with_reducible refine LeO.ite ?_ ?_)
   | (with_reducible refine LeO.bind ?_ (fun _ => ?_))
   | exact ih0 _ _ _
   | exact LeO.none _
   | refine LeO.ite ?_ ?_
   | refine LeO.bind ?_ (fun _ => ?_)
theorem laws_zzFits2.mono : ∀ a0 k, LeO (laws_zzFits2.f k a0) (laws_zzFits2.f (k + 1) a0) := by
 intro a0 k
 have ih0 := laws_zzFits2.mono_l k
 unfold laws_zzFits2.f
 repeat' first
   | (with_reducible exact ih0 _ _ _)
   | (with_reducible exact LeO.refl _)
   | (with_reducible exact LeO.none _)
   | (with_reducible refine LeO.ite ?_ ?_)
   | (with_reducible refine LeO.bind ?_ (fun _ => ?_))
   | exact ih0 _ _ _
   | exact LeO.none _
   | refine LeO.ite ?_ ?_
   | refine LeO.bind ?_ (fun _ => ?_)
set_option maxHeartbeats 8000000 in
set_option maxRecDepth 100000 in
theorem laws_zzFits2.calls (k : Nat) (A0 : Option Addr) (c0 : Nat) (l0 : List (List Int)) (r : Bool) (w : World) (hr0 : Kd.C (Kd.slice 5 (Kd.int .u8)) w A0 l0.length l0) (hc0 : l0.length ≤ c0) (h : laws_zzFits2.f k l0 = some r) :
  Calls Tryd.prog 19 #[.slice A0 l0.length c0] w fun e w' => e = .returned (.bool r) ∧ Drawn0 w w' := by
 have HR0 := Aside0.mk hr0
 have HC0 := Aside0.mk hc0
 clear hr0 hc0
 have H : (if (l0.length : Int) > 2147483647 then (some false) else (laws_zzFits2.l0 k l0 (l0.length : Int) 0)) = some r := h
 clear h
 by_cases c2 : (l0.length : Int) > 2147483647
 ·rw [if_pos c2] at H
  have c2b0 : decide (2147483647 < (l0.length : Int)) = true := decide_eq_true c2
  have c2b1 : decide (2147483647 < l0.length) = true := decide_eq_true (by omega)
  clear c2
  obtain rfl := Option.some.inj H
  go_enter Tryd.func19, Tryd.ntmps19
  go_wp2
  go_ret
  exact ⟨by first | rfl | (simp; done) | (simp [*]; done), by repeat (first | exact Drawn0.refl _ | apply Drawn0.step)⟩
 ·rw [if_neg c2] at H
  have c2b0 : decide (2147483647 < (l0.length : Int)) = false := decide_eq_false c2
  have c2b1 : decide (2147483647 < l0.length) = false := decide_eq_false (by omega)
  clear c2
  have H' := Aside0.mk H
  clear H
  go_enter Tryd.func19, Tryd.ntmps19
  go_wp2
  go_loopg [10] k (fun kq v10 w' => ∃ (x10_1 : Int), v10 = .int .i64 x10_1 ∧ Aside0 (laws_zzFits2.l0 kq l0 (l0.length : Int) x10_1 = some r) ∧ Aside0 (kq ≤ k) ∧ Drawn0 w w')
  case atStart => exact ⟨(0), (by first | rfl | (simp; done) | (simp [*]; done)), H', ⟨Nat.le_refl _⟩, by repeat (first | exact Drawn0.refl _ | apply Drawn0.step)⟩
  case round =>
   clear H'
   try clear c1
   try clear c2
   try clear c2b0
   try clear c2b1
   try clear p2
   obtain ⟨x10_1, rfl, HA, HK1, ⟨m1, rfl⟩⟩ := hrel
   cases gk with
   | zero => exact absurd HA.out (by simp [laws_zzFits2.l0])
   | succ k1 =>
    have H := HA.out
    clear HA
    simp only [laws_zzFits2.l0] at H
    by_cases c3 : x10_1 < (l0.length : Int)
    ·rw [if_pos c3] at H
     have c3b0 : decide (x10_1 < (l0.length : Int)) = true := decide_eq_true c3
     clear c3
     by_cases c4 : 0 ≤ x10_1
     ·rw [if_pos c4] at H
      have c4b0 : decide (0 ≤ x10_1) = true := decide_eq_true c4
      clear c4
      by_cases c5 : x10_1 < (l0.length : Int)
      ·rw [if_pos c5] at H
       have c5b0 : decide (x10_1 < (l0.length : Int)) = true := decide_eq_true c5
       clear c5
       by_cases c6 : ((rd_L1 l0 x10_1).length : Int) > 2147483647
       ·rw [if_pos c6] at H
        have c6b0 : decide (2147483647 < ((rd_L1 l0 x10_1).length : Int)) = true := decide_eq_true c6
        have c6b1 : decide (2147483647 < (rd_L1 l0 x10_1).length) = true := decide_eq_true (by omega)
        clear c6
        obtain rfl := Option.some.inj H
        have p108 : 0 ≤ (x10_1 : Int) := dA
        have q108 : x10_1 < (l0.length : Int) := dA
        obtain ⟨ad108, A108_0, c108_0, e108, hx108_0, hl108_0, hi108_0⟩ := at_L1 HR0.out x10_1 p108 q108
        cases e108
        have HR108_0 := Aside0.mk hi108_0
        have HC108_0 := Aside0.mk hl108_0
        clear hi108_0 hl108_0
        replace p108 := eq_true p108
        replace q108 := eq_true q108
        go_wp2
        go_ret
        exact ⟨by first | rfl | (simp; done) | (simp [*]; done), by repeat (first | exact Drawn0.refl _ | apply Drawn0.step)⟩
       ·rw [if_neg c6] at H
        have c6b0 : decide (2147483647 < ((rd_L1 l0 x10_1).length : Int)) = false := decide_eq_false c6
        have c6b1 : decide (2147483647 < (rd_L1 l0 x10_1).length) = false := decide_eq_false (by omega)
        clear c6
        have H' := Aside0.mk H
        clear H
        have p108 : 0 ≤ (x10_1 : Int) := dA
        have q108 : x10_1 < (l0.length : Int) := dA
        obtain ⟨ad108, A108_0, c108_0, e108, hx108_0, hl108_0, hi108_0⟩ := at_L1 HR0.out x10_1 p108 q108
        cases e108
        have HR108_0 := Aside0.mk hi108_0
        have HC108_0 := Aside0.mk hl108_0
        clear hi108_0 hl108_0
        replace p108 := eq_true p108
        replace q108 := eq_true q108
        go_wp2
        go_roundg k1
        case measure => have := HK1.out; omega
        case rel => exact ⟨(wrap64 (x10_1 + 1)), (by first | rfl | (simp; done) | (simp [*]; done)), H', ⟨by have := HK1.out; omega⟩, by repeat (first | exact Drawn0.refl _ | apply Drawn0.step)⟩
      ·rw [if_neg c5] at H
       exact absurd H (by simp)
     ·rw [if_neg c4] at H
      exact absurd H (by simp)
    ·rw [if_neg c3] at H
     have c3b0 : decide (x10_1 < (l0.length : Int)) = false := decide_eq_false c3
     clear c3
     obtain rfl := Option.some.inj H
     go_wp2
     go_ret
     exact ⟨by first | rfl | (simp; done) | (simp [*]; done), by repeat (first | exact Drawn0.refl _ | apply Drawn0.step)⟩


/-! ### laws_moderate: function 20 -/
mutual
def laws_moderate.l0 : Nat → List (List (List Int)) → Int → Int → Option (Bool)
 | 0, _, _, _ => none
 | k + 1, x7, x8, x9 => if x9 < x8 then (if 0 ≤ x9 then (if x9 < (x7.length : Int) then (if ((rd_L2 x7 x9).length : Int) > 40 then (some false) else (laws_moderate.l1 k x7 x8 x9 (rd_L2 x7 x9) ((rd_L2 x7 x9).length : Int) 0)) else (none)) else (none)) else (some true)
def laws_moderate.l1 : Nat → List (List (List Int)) → Int → Int → List (List Int) → Int → Int → Option (Bool)
 | 0, _, _, _, _, _, _ => none
 | k + 1, x7, x8, x9, x16, x17, x18 => if x18 < x17 then (if 0 ≤ x18 then (if x18 < (x16.length : Int) then (if ((rd_L1 x16 x18).length : Int) > 40 then (some false) else (laws_moderate.l1 k x7 x8 x9 x16 x17 (wrap64 (x18 + 1)))) else (none)) else (none)) else (laws_moderate.l0 k x7 x8 (wrap64 (x9 + 1)))
end
def laws_moderate.f (k : Nat) (l0 : List (List (List Int))) : Option (Bool) := laws_moderate.l0 k l0 (l0.length : Int) 0
theorem laws_moderate.mono_l : ∀ k, (∀ y0 y1 y2, LeO (laws_moderate.l0 k y0 y1 y2) (laws_moderate.l0 (k + 1) y0 y1 y2)) ∧ (∀ y0 y1 y2 y3 y4 y5, LeO (laws_moderate.l1 k y0 y1 y2 y3 y4 y5) (laws_moderate.l1 (k + 1) y0 y1 y2 y3 y4 y5))
 | 0 => ⟨fun _ _ _ r h => by simp [laws_moderate.l0] at h, fun _ _ _ _ _ _ r h => by simp [laws_moderate.l1] at h⟩
 | k + 1 => by
  obtain ⟨ih0, ih1⟩ := laws_moderate.mono_l k
  refine ⟨?_, ?_⟩
  ·intro y0 y1 y2
   unfold laws_moderate.l0
   repeat' first
   | (with_reducible exact ih0 _ _ _)
   | (with_reducible exact ih1 _ _ _ _ _ _)
   | (with_reducible exact LeO.refl _)
   | (with_reducible exact LeO.none _)
   | (with_reducible refine LeO.ite ?_ ?_)
   | (with_reducible refine LeO.bind ?_ (fun _ => ?_))
   | exact ih0 _ _ _
   | exact ih1 _ _ _ _ _ _
   | exact LeO.none _
   | refine LeO.ite ?_ ?_
   | refine LeO.bind ?_ (fun _ => ?_)
  ·intro y0 y1 y2 y3 y4 y5
   unfold laws_moderate.l1
   repeat' first
   | (with_reducible exact ih0 _ _ _)
   | (with_reducible exact ih1 _ _ _ _ _ _)
   | (with_reducible exact LeO.refl _)
   | (with_reducible exact LeO.none _)
   | (with_reducible refine LeO.ite ?_ ?_)
   | (with_reducible refine LeO.bind ?_ (fun _ => ?_))
   | exact ih0 _ _ _
   | exact ih1 _ _ _ _ _ _
   | exact LeO.none _
   | refine LeO.ite ?_ ?_
   | refine LeO.bind ?_ (fun _ => ?_)
theorem laws_moderate.mono : ∀ a0 k, LeO (laws_moderate.f k a0) (laws_moderate.f (k + 1) a0) := by
 intro a0 k
 obtain ⟨ih0, ih1⟩ := laws_moderate.mono_l k
 unfold laws_moderate.f
 repeat' first
   | (with_reducible exact ih0 _ _ _)
   | (with_reducible exact ih1 _ _ _ _ _ _)
   | (with_reducible exact LeO.refl _)
   | (with_reducible exact LeO.none _)
   | (with_reducible refine LeO.ite ?_ ?_)
   | (with_reducible refine LeO.bind ?_ (fun _ => ?_))
   | exact ih0 _ _ _
   | exact ih1 _ _ _ _ _ _
   | exact LeO.none _
   | refine LeO.ite ?_ ?_
   | refine LeO.bind ?_ (fun _ => ?_)
set_option maxHeartbeats 8000000 in
set_option maxRecDepth 100000 in
theorem laws_moderate.calls (k : Nat) (A0 : Option Addr) (c0 : Nat) (l0 : List (List (List Int))) (r : Bool) (w : World) (hr0 : Kd.C (Kd.slice 22 (Kd.slice 5 (Kd.int .u8))) w A0 l0.length l0) (hc0 : l0.length ≤ c0) (h : laws_moderate.f k l0 = some r) :
  Calls Tryd.prog 20 #[.slice A0 l0.length c0] w fun e w' => e = .returned (.bool r) ∧ Drawn0 w w' := by
 have HR0 := Aside0.mk hr0
 have HC0 := Aside0.mk hc0
 clear hr0 hc0
 have H : (laws_moderate.l0 k l0 (l0.length : Int) 0) = some r := h
 clear h
 have H' := Aside0.mk H
 clear H
 go_enter Tryd.func20, Tryd.ntmps20
 go_wp2
 go_loopg [9] k (fun kq v9 w' => ∃ (x9_1 : Int), v9 = .int .i64 x9_1 ∧ Aside0 (laws_moderate.l0 kq l0 (l0.length : Int) x9_1 = some r) ∧ Aside0 (kq ≤ k) ∧ Drawn0 w w')
 case atStart => exact ⟨(0), (by first | rfl | (simp; done) | (simp [*]; done)), H', ⟨Nat.le_refl _⟩, by repeat (first | exact Drawn0.refl _ | apply Drawn0.step)⟩
 case round =>
  clear H'
  obtain ⟨x9_1, rfl, HA, HK1, ⟨m1, rfl⟩⟩ := hrel
  cases gk with
  | zero => exact absurd HA.out (by simp [laws_moderate.l0])
  | succ k1 =>
   have H := HA.out
   clear HA
   simp only [laws_moderate.l0] at H
   by_cases c2 : x9_1 < (l0.length : Int)
   ·rw [if_pos c2] at H
    have c2b0 : decide (x9_1 < (l0.length : Int)) = true := decide_eq_true c2
    clear c2
    by_cases c3 : 0 ≤ x9_1
    ·rw [if_pos c3] at H
     have c3b0 : decide (0 ≤ x9_1) = true := decide_eq_true c3
     clear c3
     by_cases c4 : x9_1 < (l0.length : Int)
     ·rw [if_pos c4] at H
      have c4b0 : decide (x9_1 < (l0.length : Int)) = true := decide_eq_true c4
      clear c4
      by_cases c5 : ((rd_L2 l0 x9_1).length : Int) > 40
      ·rw [if_pos c5] at H
       have c5b0 : decide (40 < ((rd_L2 l0 x9_1).length : Int)) = true := decide_eq_true c5
       have c5b1 : decide (40 < (rd_L2 l0 x9_1).length) = true := decide_eq_true (by omega)
       clear c5
       obtain rfl := Option.some.inj H
       have p109 : 0 ≤ (x9_1 : Int) := dA
       have q109 : x9_1 < (l0.length : Int) := dA
       obtain ⟨ad109, A109_0, c109_0, e109, hx109_0, hl109_0, hi109_0⟩ := at_L2 HR0.out x9_1 p109 q109
       cases e109
       have HR109_0 := Aside0.mk hi109_0
       have HC109_0 := Aside0.mk hl109_0
       clear hi109_0 hl109_0
       replace p109 := eq_true p109
       replace q109 := eq_true q109
       go_wp2
       go_ret
       exact ⟨by first | rfl | (simp; done) | (simp [*]; done), by repeat (first | exact Drawn0.refl _ | apply Drawn0.step)⟩
      ·rw [if_neg c5] at H
       have c5b0 : decide (40 < ((rd_L2 l0 x9_1).length : Int)) = false := decide_eq_false c5
       have c5b1 : decide (40 < (rd_L2 l0 x9_1).length) = false := decide_eq_false (by omega)
       clear c5
       have H' := Aside0.mk H
       clear H
       have p109 : 0 ≤ (x9_1 : Int) := dA
       have q109 : x9_1 < (l0.length : Int) := dA
       obtain ⟨ad109, A109_0, c109_0, e109, hx109_0, hl109_0, hi109_0⟩ := at_L2 HR0.out x9_1 p109 q109
       cases e109
       have HR109_0 := Aside0.mk hi109_0
       have HC109_0 := Aside0.mk hl109_0
       clear hi109_0 hl109_0
       replace p109 := eq_true p109
       replace q109 := eq_true q109
       go_wp2
       go_loopg [18] k1 (fun kq v18 w' => ∃ (x18_2 : Int), v18 = .int .i64 x18_2 ∧ Aside0 (laws_moderate.l1 kq l0 (l0.length : Int) x9_1 (rd_L2 l0 x9_1) ((rd_L2 l0 x9_1).length : Int) x18_2 = some r) ∧ Aside0 (kq ≤ k1) ∧ Drawn0 w w')
       case atStart => exact ⟨(0), (by first | rfl | (simp; done) | (simp [*]; done)), H', ⟨Nat.le_refl _⟩, by repeat (first | exact Drawn0.refl _ | apply Drawn0.step)⟩
       case round =>
        clear H'
        try clear c1
        try clear p1
        try clear q1
        try clear hx1
        try clear c2
        try clear c2b0
        try clear p2
        try clear c3
        try clear c3b0
        try clear c4
        try clear c4b0
        try clear c5
        try clear c5b0
        try clear c5b1
        try clear hx109_0
        try clear p109
        try clear q109
        obtain ⟨x18_2, rfl, HA, HK2, ⟨m2, rfl⟩⟩ := hrel
        cases gk with
        | zero => exact absurd HA.out (by simp [laws_moderate.l1])
        | succ k2 =>
         have H := HA.out
         clear HA
         simp only [laws_moderate.l1] at H
         by_cases c6 : x18_2 < ((rd_L2 l0 x9_1).length : Int)
         ·rw [if_pos c6] at H
          have c6b0 : decide (x18_2 < ((rd_L2 l0 x9_1).length : Int)) = true := decide_eq_true c6
          clear c6
          by_cases c7 : 0 ≤ x18_2
          ·rw [if_pos c7] at H
           have c7b0 : decide (0 ≤ x18_2) = true := decide_eq_true c7
           clear c7
           by_cases c8 : x18_2 < ((rd_L2 l0 x9_1).length : Int)
           ·rw [if_pos c8] at H
            have c8b0 : decide (x18_2 < ((rd_L2 l0 x9_1).length : Int)) = true := decide_eq_true c8
            clear c8
            by_cases c9 : ((rd_L1 (rd_L2 l0 x9_1) x18_2).length : Int) > 40
            ·rw [if_pos c9] at H
             have c9b0 : decide (40 < ((rd_L1 (rd_L2 l0 x9_1) x18_2).length : Int)) = true := decide_eq_true c9
             have c9b1 : decide (40 < (rd_L1 (rd_L2 l0 x9_1) x18_2).length) = true := decide_eq_true (by omega)
             clear c9
             obtain rfl := Option.some.inj H
             have p110 : 0 ≤ (x18_2 : Int) := dA
             have q110 : x18_2 < ((rd_L2 l0 x9_1).length : Int) := dA
             obtain ⟨ad110, A110_0, c110_0, e110, hx110_0, hl110_0, hi110_0⟩ := at_L1 HR109_0.out x18_2 p110 q110
             cases e110
             have HR110_0 := Aside0.mk hi110_0
             have HC110_0 := Aside0.mk hl110_0
             clear hi110_0 hl110_0
             replace p110 := eq_true p110
             replace q110 := eq_true q110
             go_wp2
             go_ret
             exact ⟨by first | rfl | (simp; done) | (simp [*]; done), by repeat (first | exact Drawn0.refl _ | apply Drawn0.step)⟩
            ·rw [if_neg c9] at H
             have c9b0 : decide (40 < ((rd_L1 (rd_L2 l0 x9_1) x18_2).length : Int)) = false := decide_eq_false c9
             have c9b1 : decide (40 < (rd_L1 (rd_L2 l0 x9_1) x18_2).length) = false := decide_eq_false (by omega)
             clear c9
             have H' := Aside0.mk H
             clear H
             have p110 : 0 ≤ (x18_2 : Int) := dA
             have q110 : x18_2 < ((rd_L2 l0 x9_1).length : Int) := dA
             obtain ⟨ad110, A110_0, c110_0, e110, hx110_0, hl110_0, hi110_0⟩ := at_L1 HR109_0.out x18_2 p110 q110
             cases e110
             have HR110_0 := Aside0.mk hi110_0
             have HC110_0 := Aside0.mk hl110_0
             clear hi110_0 hl110_0
             replace p110 := eq_true p110
             replace q110 := eq_true q110
             go_wp2
             go_roundg k2
             case measure => have := HK1.out; have := HK2.out; omega
             case rel => exact ⟨(wrap64 (x18_2 + 1)), (by first | rfl | (simp; done) | (simp [*]; done)), H', ⟨by have := HK1.out; have := HK2.out; omega⟩, by repeat (first | exact Drawn0.refl _ | apply Drawn0.step)⟩
           ·rw [if_neg c8] at H
            exact absurd H (by simp)
          ·rw [if_neg c7] at H
           exact absurd H (by simp)
         ·rw [if_neg c6] at H
          have c6b0 : decide (x18_2 < ((rd_L2 l0 x9_1).length : Int)) = false := decide_eq_false c6
          clear c6
          have H' := Aside0.mk H
          clear H
          go_wp2
          go_roundg k2
          case measure => have := HK1.out; have := HK2.out; omega
          case rel => exact ⟨(wrap64 (x9_1 + 1)), (by first | rfl | (simp; done) | (simp [*]; done)), H', ⟨by have := HK1.out; have := HK2.out; omega⟩, by repeat (first | exact Drawn0.refl _ | apply Drawn0.step)⟩
     ·rw [if_neg c4] at H
      exact absurd H (by simp)
    ·rw [if_neg c3] at H
     exact absurd H (by simp)
   ·rw [if_neg c2] at H
    have c2b0 : decide (x9_1 < (l0.length : Int)) = false := decide_eq_false c2
    clear c2
    obtain rfl := Option.some.inj H
    go_wp2
    go_ret
    exact ⟨by first | rfl | (simp; done) | (simp [*]; done), by repeat (first | exact Drawn0.refl _ | apply Drawn0.step)⟩


/-! ### impl_rows: function 36 -/
def impl_rows.l0 : Nat → List (List Int) → List (List Int) → Int → Int → Option ((List (List Int)))
 | 0, _, _, _, _ => none
 | k + 1, x3, x6, x7, x8 => if x8 < x7 then (if 0 ≤ x8 then (if x8 < (x6.length : Int) then (if ([] : List Int).length + (rd_L1 x6 x8).length < 140737488355328 then (if x3.length < 5864062014805 then (impl_rows.l0 k (x3 ++ [(([] : List Int) ++ (rd_L1 x6 x8))]) x6 x7 (wrap64 (x8 + 1))) else (none)) else (none)) else (none)) else (none)) else (some x3)
def impl_rows.f (k : Nat) (l0 : List (List Int)) : Option ((List (List Int))) := impl_rows.l0 k ([] : List (List Int)) l0 (l0.length : Int) 0
theorem impl_rows.mono_l : ∀ k, (∀ y0 y1 y2 y3, LeO (impl_rows.l0 k y0 y1 y2 y3) (impl_rows.l0 (k + 1) y0 y1 y2 y3))
 | 0 => fun _ _ _ _ r h => by simp [impl_rows.l0] at h
 | k + 1 => by
  have ih0 := impl_rows.mono_l k
  ·intro y0 y1 y2 y3
   unfold impl_rows.l0
   repeat' first
   | (with_reducible exact ih0 _ _ _ _)
   | (with_reducible exact LeO.refl _)
   | (with_reducible exact LeO.none _)
   | (with_reducible refine LeO.ite ?_ ?_)
   | (with_reducible refine LeO.bind ?_ (fun _ => ?_))
   | exact ih0 _ _ _ _
   | exact LeO.none _
   | refine LeO.ite ?_ ?_
   | refine LeO.bind ?_ (fun _ => ?_)
theorem impl_rows.mono : ∀ a0 k, LeO (impl_rows.f k a0) (impl_rows.f (k + 1) a0) := by
 intro a0 k
 have ih0 := impl_rows.mono_l k
 unfold impl_rows.f
 repeat' first
   | (with_reducible exact ih0 _ _ _ _)
   | (with_reducible exact LeO.refl _)
   | (with_reducible exact LeO.none _)
   | (with_reducible refine LeO.ite ?_ ?_)
   | (with_reducible refine LeO.bind ?_ (fun _ => ?_))
   | exact ih0 _ _ _ _
   | exact LeO.none _
   | refine LeO.ite ?_ ?_
   | refine LeO.bind ?_ (fun _ => ?_)
set_option maxHeartbeats 8000000 in
set_option maxRecDepth 100000 in
theorem impl_rows.calls (k : Nat) (A0 : Option Addr) (c0 : Nat) (l0 : List (List Int)) (r : List (List Int)) (w : World) (hr0 : Kd.C (Kd.slice 5 (Kd.int .u8)) w A0 l0.length l0) (hc0 : l0.length ≤ c0) (h : impl_rows.f k l0 = some r) :
  Calls Tryd.prog 36 #[.slice A0 l0.length c0] w fun e w' => ∃ v0_ : Value, e = .returned (v0_) ∧ Kd.S (Kd.slice 5 (Kd.int .u8)) 22 w' w.heap.size (fun _ => True) v0_ r ∧ Below w.heap.size w w' := by
 have HR0 := Aside0.mk hr0
 have HC0 := Aside0.mk hc0
 clear hr0 hc0
 have HB := Aside0.mk (Below.refl w.heap.size w)
 have H : (impl_rows.l0 k ([] : List (List Int)) l0 (l0.length : Int) 0) = some r := h
 clear h
 have H' := Aside0.mk H
 clear H
 go_enter Tryd.func36, Tryd.ntmps36
 go_wp2
 go_loopg [3, 8] k (fun kq v3 v8 w' => ∃ (x3_1 : List (List Int)) (x8_1 : Int), v8 = .int .i64 x8_1 ∧ Aside0 (impl_rows.l0 kq x3_1 l0 (l0.length : Int) x8_1 = some r) ∧ Aside0 (kq ≤ k) ∧ Aside0 (Kd.S (Kd.slice 5 (Kd.int .u8)) 22 w' w.heap.size (fun _ => True) v3 x3_1) ∧ Aside0 (Below w.heap.size w w'))
 case atStart => exact ⟨(([] : List (List Int))), (0), (by first | rfl | (simp; done) | (simp [*]; done)), H', ⟨Nat.le_refl _⟩, ⟨by first | exact Kd.S_nil _ _ _ _ _ | exact Kd.N_nil _ _ _ _ _ | exact Kd.V_nil _ _ _ _ _ | exact Kd.Q_nil _ _ _ _ _ | exact Kd.R_nil _ _ _ _ _⟩, ⟨bB⟩⟩
 case round =>
  clear H'
  obtain ⟨x3_1, x8_1, rfl, HA, HK1, HO_3, HB⟩ := hrel
  cases gk with
  | zero => exact absurd HA.out (by simp [impl_rows.l0])
  | succ k1 =>
   have H := HA.out
   clear HA
   simp only [impl_rows.l0] at H
   by_cases c2 : x8_1 < (l0.length : Int)
   ·rw [if_pos c2] at H
    have c2b0 : decide (x8_1 < (l0.length : Int)) = true := decide_eq_true c2
    clear c2
    by_cases c3 : 0 ≤ x8_1
    ·rw [if_pos c3] at H
     have c3b0 : decide (0 ≤ x8_1) = true := decide_eq_true c3
     clear c3
     by_cases c4 : x8_1 < (l0.length : Int)
     ·rw [if_pos c4] at H
      have c4b0 : decide (x8_1 < (l0.length : Int)) = true := decide_eq_true c4
      clear c4
      by_cases c5 : ([] : List Int).length + (rd_L1 l0 x8_1).length < 140737488355328
      ·rw [if_pos c5] at H
       have LMc5 := Aside0.mk c5
       clear c5
       obtain ⟨y112, hy112⟩ : ∃ y_ : List Int, y_ = (([] : List Int) ++ (rd_L1 l0 x8_1)) := ⟨_, rfl⟩
       replace H : (if x3_1.length < 5864062014805 then (impl_rows.l0 k1 (x3_1 ++ [y112]) l0 (l0.length : Int) (wrap64 (x8_1 + 1))) else (none)) = some r := by first | (rw [hy112]; with_reducible exact H) | (have H2_ := (Option.bind_some _ _).symm.trans H; rw [hy112]; with_reducible exact H2_) | (have H2_ := (Option.bind_some _ _).symm.trans H; with_reducible exact H2_) | with_reducible exact H | (rw [hy112]; exact H) | exact H
       have Ny112 := Aside0.mk hy112
       clear hy112
       by_cases c6 : x3_1.length < 5864062014805
       ·rw [if_pos c6] at H
        have LMc6 := Aside0.mk c6
        clear c6
        obtain ⟨y115, hy115⟩ : ∃ y_ : List (List Int), y_ = (x3_1 ++ [y112]) := ⟨_, rfl⟩
        replace H : (impl_rows.l0 k1 y115 l0 (l0.length : Int) (wrap64 (x8_1 + 1))) = some r := by first | (rw [hy115]; with_reducible exact H) | (have H2_ := (Option.bind_some _ _).symm.trans H; rw [hy115]; with_reducible exact H2_) | (have H2_ := (Option.bind_some _ _).symm.trans H; with_reducible exact H2_) | with_reducible exact H | (rw [hy115]; exact H) | exact H
        have Ny115 := Aside0.mk hy115
        clear hy115
        have H' := Aside0.mk H
        clear H
        have p111 : 0 ≤ (x8_1 : Int) := dA
        have q111 : x8_1 < (l0.length : Int) := dA
        obtain ⟨ad111, A111_0, c111_0, e111, hx111_0, hl111_0, hi111_0⟩ := at_L1 HR0.out x8_1 p111 q111
        cases e111
        replace hx111_0 := (HB.out.cell (World.block_lt_of_cell? w _ hx111_0)).trans hx111_0
        have HR111_0 := Aside0.mk hi111_0
        have HC111_0 := Aside0.mk hl111_0
        clear hi111_0 hl111_0
        replace p111 := eq_true p111
        replace q111 := eq_true q111
        go_wp2_with (first | ((with_reducible refine gate_builtin (b := .append) (xs := #[.const (.slice none 0 0), .tmp 13]) rfl ?_); at_builtin; refine Kd.R_append_rows (Kd.int .u8) (w0 := w) w.heap.size rfl (.const (.slice none 0 0)) (.tmp 13) 22 5 (.int .u8 0) 1 rfl Tryd.underlying22 info5 rfl (by decide) (by omega) (.slice none 0 0) ([] : List Int) (rd_L1 l0 x8_1) _ _ _ (fun _ => True) (fun _ => False) rfl rfl ?aO ?aR (fun _ _ h => h) (fun _ h => h.elim) ?aF ?aB ?aS ?aL ?_; (case aR => repeat (first | exact (Kd.C_below HR111_0.out HB.out) | (with_reducible refine Kd.C_alloc ?_ _) | (with_reducible refine Kd.C_drewN ?_ _) | (with_reducible refine Kd.C_drew ?_))); (case aB => exact bB); (case aF => exact (fun _ _ => trivial)); (case aO => exact ((Kd.R_nil _ _ _ _ (fun _ => True)))); (case aS => exact (below_size bB)); (case aL => have := LMc5.out; omega); intro v113 w7 ho hb hg hat; rw [← Ny112.out] at ho; have n0_ := Aside0.mk (Kd.S_after (Kd.S_apart_nil (by (with_reducible repeat (first | apply Kd.S_alloc | apply Kd.S_drewN | apply Kd.S_drew)); exact HO_3.out)) hg hat); have n1_ := Aside0.mk (hb); have n2_ := Aside0.mk (ho); clear HO_3; clear HB; have HO_3 := n0_; have HB := n1_; have HO114 := n2_; clear n0_ n1_ n2_; clear ho hb hg hat; obtain ⟨Ao9, co9, eo9⟩ := Kd.R_slice HO114.out; subst eo9) | ((with_reducible refine gate_builtin (b := .append) (xs := #[.tmp 12, .tmp 15]) rfl ?_); at_builtin; refine Kd.S_append (Kd.slice 5 (Kd.int .u8)) (w0 := w) w.heap.size rfl (.tmp 12) (.tmp 15) 31 22 (.slice none 0 0) 24 rfl Tryd.underlying31 info22 rfl (by decide) (by omega) u3 x3_1 y112 [.slice Ao9 y112.length co9] (fun _ => True) (fun k_ => some k_ = (.slice Ao9 y112.length co9 : Value).ownBlock) rfl rfl ?aP (fun k_ hk_ => ((Kd.R_mono (ok' := fun k_ => ((fun _ => True)) k_ ∧ some k_ ≠ (u3 : Value).ownBlock) (Kd.R_apart' (HO114.out) (Kd.S_typed HO_3.out) (by decide)) (fun k_ hk => ⟨trivial, hk.2⟩))).1 k_ hk_.symm) ?aF ?aO ?aB ?aS ?aL ?_; (case aP => exact Kd.M_row (Kd.R_mono (Kd.R_tight rfl (Kd.R_mono (ok' := fun k_ => ((fun _ => True)) k_ ∧ some k_ ≠ (u3 : Value).ownBlock) (Kd.R_apart' (HO114.out) (Kd.S_typed HO_3.out) (by decide)) (fun k_ hk => ⟨trivial, hk.2⟩))) (fun _ h_ => h_))); (case aB => exact bB); (case aF => exact (fun _ _ => trivial)); (case aO => exact (by (with_reducible repeat (first | apply Kd.S_alloc | apply Kd.S_drewN | apply Kd.S_drew)); exact Kd.S_mono HO_3.out (fun k_ hk => ⟨trivial, fun e_ => hk.2 e_⟩))); (case aS => exact (below_size bB)); (case aL => have := LMc6.out; omega); intro v116 w8 ho hb hg hat; rw [← Ny115.out] at ho; have n0_ := Aside0.mk (hb); have n1_ := Aside0.mk (ho); clear HB; clear HO_3; clear HO114; have HB := n0_; have HO117 := n1_; clear n0_ n1_; clear ho hb hg hat))
        go_roundg k1
        case measure => have := HK1.out; omega
        case rel => exact ⟨(y115), (wrap64 (x8_1 + 1)), (by first | rfl | (simp; done) | (simp [*]; done)), H', ⟨by have := HK1.out; omega⟩, ⟨by (with_reducible repeat (first | apply Kd.S_alloc | apply Kd.S_drewN | apply Kd.S_drew)); exact HO117.out⟩, ⟨bB⟩⟩
       ·rw [if_neg c6] at H
        exact absurd H (by simp)
      ·rw [if_neg c5] at H
       exact absurd H (by simp)
     ·rw [if_neg c4] at H
      exact absurd H (by simp)
    ·rw [if_neg c3] at H
     exact absurd H (by simp)
   ·rw [if_neg c2] at H
    have c2b0 : decide (x8_1 < (l0.length : Int)) = false := decide_eq_false c2
    clear c2
    obtain rfl := Option.some.inj H
    go_wp2
    go_ret
    exact ⟨_, by first | rfl | (simp [errW_none, errW_some] <;> rfl) | (simp [*, errW_none, errW_some] <;> rfl), by (with_reducible repeat (first | apply Kd.S_alloc | apply Kd.S_drewN | apply Kd.S_drew)); exact HO_3.out, bB⟩


/-! ### reedsolomon_matrix_Check: function 58 -/
def reedsolomon_matrix_Check.l0 : Nat → Int → List (List Int) → Int → Int → Option (Option Int)
 | 0, _, _, _, _ => none
 | k + 1, x4, x19, x20, x21 => if x21 < x20 then (if 0 ≤ x21 then (if x21 < (x19.length : Int) then (if ((rd_L1 x19 x21).length : Int) = x4 then (reedsolomon_matrix_Check.l0 k x4 x19 x20 (wrap64 (x21 + 1))) else (some (some 6))) else (none)) else (none)) else (some none)
def reedsolomon_matrix_Check.f (k : Nat) (l0 : List (List Int)) : Option (Option Int) := if (l0.length : Int) = 0 then (some (some 4)) else (if 0 < (l0.length : Int) then (if ((rd_L1 l0 0).length : Int) = 0 then (some (some 5)) else (reedsolomon_matrix_Check.l0 k ((rd_L1 l0 0).length : Int) l0 (l0.length : Int) 0)) else (none))
theorem reedsolomon_matrix_Check.mono_l : ∀ k, (∀ y0 y1 y2 y3, LeO (reedsolomon_matrix_Check.l0 k y0 y1 y2 y3) (reedsolomon_matrix_Check.l0 (k + 1) y0 y1 y2 y3))
 | 0 => fun _ _ _ _ r h => by simp [reedsolomon_matrix_Check.l0] at h
 | k + 1 => by
  have ih0 := reedsolomon_matrix_Check.mono_l k
  ·intro y0 y1 y2 y3
   unfold reedsolomon_matrix_Check.l0
   repeat' first
   | (with_reducible exact ih0 _ _ _ _)
   | (with_reducible exact LeO.refl _)
   | (with_reducible exact LeO.none _)
   | (with_reducible refine LeO.ite ?_ ?_)
   | (with_reducible refine LeO.bind ?_ (fun _ => ?_))
   | exact ih0 _ _ _ _
   | exact LeO.none _
   | refine LeO.ite ?_ ?_
   | refine LeO.bind ?_ (fun _ => ?_)
theorem reedsolomon_matrix_Check.mono : ∀ a0 k, LeO (reedsolomon_matrix_Check.f k a0) (reedsolomon_matrix_Check.f (k + 1) a0) := by
 intro a0 k
 have ih0 := reedsolomon_matrix_Check.mono_l k
 unfold reedsolomon_matrix_Check.f
 repeat' first
   | (with_reducible exact ih0 _ _ _ _)
   | (with_reducible exact LeO.refl _)
   | (with_reducible exact LeO.none _)
   | (with_reducible refine LeO.ite ?_ ?_)
   | (with_reducible refine LeO.bind ?_ (fun _ => ?_))
   | exact ih0 _ _ _ _
   | exact LeO.none _
   | refine LeO.ite ?_ ?_
   | refine LeO.bind ?_ (fun _ => ?_)
set_option maxHeartbeats 8000000 in
set_option maxRecDepth 100000 in
theorem reedsolomon_matrix_Check.calls (k : Nat) (A0 : Option Addr) (c0 : Nat) (l0 : List (List Int)) (r : Option Int) (w : World) (hT : TabOK w) (hr0 : Kd.C (Kd.slice 5 (Kd.int .u8)) w A0 l0.length l0) (hc0 : l0.length ≤ c0) (h : reedsolomon_matrix_Check.f k l0 = some r) :
  Calls Tryd.prog 58 #[.slice A0 l0.length c0] w fun e w' => ∃ (T_ : Int → TypeId) (X_ : Int → Value), e = .returned (errW T_ X_ r) ∧ Drawn0 w w' := by
 obtain ⟨te4_, xe4_, he4_⟩ := hT.er 4 (by decide)
 have HE4_ := Aside0.mk he4_
 clear he4_
 obtain ⟨te5_, xe5_, he5_⟩ := hT.er 5 (by decide)
 have HE5_ := Aside0.mk he5_
 clear he5_
 obtain ⟨te6_, xe6_, he6_⟩ := hT.er 6 (by decide)
 have HE6_ := Aside0.mk he6_
 clear he6_
 have HT := Aside0.mk hT
 clear hT
 have HR0 := Aside0.mk hr0
 have HC0 := Aside0.mk hc0
 clear hr0 hc0
 have H : (if (l0.length : Int) = 0 then (some (some 4)) else (if 0 < (l0.length : Int) then (if ((rd_L1 l0 0).length : Int) = 0 then (some (some 5)) else (reedsolomon_matrix_Check.l0 k ((rd_L1 l0 0).length : Int) l0 (l0.length : Int) 0)) else (none))) = some r := h
 clear h
 by_cases c2 : (l0.length : Int) = 0
 ·rw [if_pos c2] at H
  have c2b0 : ((l0.length : Int) == 0) = true := beq_iff_eq.mpr c2
  have c2b1 : ((l0.length : Int) != 0) = false := bne_eq_false_iff_eq.mpr c2
  clear c2
  obtain rfl := Option.some.inj H
  (try clear hce4_)
  have hce4_ : w.cell? ⟨4, 0, none⟩ = some (.iface te4_ xe4_) := HE4_.out
  go_enter Tryd.func58, Tryd.ntmps58
  go_wp2
  go_ret
  first | exact ⟨(fun _ => te4_), (fun _ => xe4_), by first | rfl | (simp; done) | (simp [*]; done), by repeat (first | exact Drawn0.refl _ | apply Drawn0.step)⟩ | exact ⟨⟨(fun _ => te4_), (fun _ => xe4_), by first | rfl | (simp; done) | (simp [*]; done)⟩, by repeat (first | exact Drawn0.refl _ | apply Drawn0.step)⟩
 ·rw [if_neg c2] at H
  have c2b0 : ((l0.length : Int) == 0) = false := beq_eq_false_iff_ne.mpr c2
  have c2b1 : ((l0.length : Int) != 0) = true := bne_iff_ne.mpr c2
  have c2b2 : ¬ (l0 = []) := fun h_ => c2 (by rw [h_]; rfl)
  by_cases c3 : 0 < (l0.length : Int)
  ·rw [if_pos c3] at H
   have c3b0 : decide (0 < (l0.length : Int)) = true := decide_eq_true c3
   have c3b1 : decide (0 < l0.length) = true := decide_eq_true (by omega)
   clear c3
   by_cases c4 : ((rd_L1 l0 0).length : Int) = 0
   ·rw [if_pos c4] at H
    have c4b0 : (((rd_L1 l0 0).length : Int) == 0) = true := beq_iff_eq.mpr c4
    have c4b1 : (((rd_L1 l0 0).length : Int) != 0) = false := bne_eq_false_iff_eq.mpr c4
    clear c4
    obtain rfl := Option.some.inj H
    have p118 : 0 ≤ (0 : Int) := (by omega)
    have q118 : 0 < (l0.length : Int) := dA
    obtain ⟨ad118, A118_0, c118_0, e118, hx118_0, hl118_0, hi118_0⟩ := at_L1 HR0.out 0 p118 q118
    cases e118
    have qi118 : (0 < l0.length) = True := eq_true (by omega)
    (try rw [show ((0 : Int)).toNat = 0 from rfl] at hx118_0)
    (try rw [Addr.add_zero'] at hx118_0)
    have HR118_0 := Aside0.mk hi118_0
    have HC118_0 := Aside0.mk hl118_0
    clear hi118_0 hl118_0
    replace p118 := eq_true p118
    replace q118 := eq_true q118
    (try clear hce5_)
    have hce5_ : w.cell? ⟨5, 0, none⟩ = some (.iface te5_ xe5_) := HE5_.out
    go_enter Tryd.func58, Tryd.ntmps58
    go_wp2
    go_ret
    first | exact ⟨(fun _ => te5_), (fun _ => xe5_), by first | rfl | (simp; done) | (simp [*]; done), by repeat (first | exact Drawn0.refl _ | apply Drawn0.step)⟩ | exact ⟨⟨(fun _ => te5_), (fun _ => xe5_), by first | rfl | (simp; done) | (simp [*]; done)⟩, by repeat (first | exact Drawn0.refl _ | apply Drawn0.step)⟩
   ·rw [if_neg c4] at H
    have c4b0 : (((rd_L1 l0 0).length : Int) == 0) = false := beq_eq_false_iff_ne.mpr c4
    have c4b1 : (((rd_L1 l0 0).length : Int) != 0) = true := bne_iff_ne.mpr c4
    have c4b2 : ¬ ((rd_L1 l0 0) = []) := fun h_ => c4 (by rw [h_]; rfl)
    have H' := Aside0.mk H
    clear H
    have p118 : 0 ≤ (0 : Int) := (by omega)
    have q118 : 0 < (l0.length : Int) := dA
    obtain ⟨ad118, A118_0, c118_0, e118, hx118_0, hl118_0, hi118_0⟩ := at_L1 HR0.out 0 p118 q118
    cases e118
    have qi118 : (0 < l0.length) = True := eq_true (by omega)
    (try rw [show ((0 : Int)).toNat = 0 from rfl] at hx118_0)
    (try rw [Addr.add_zero'] at hx118_0)
    have HR118_0 := Aside0.mk hi118_0
    have HC118_0 := Aside0.mk hl118_0
    clear hi118_0 hl118_0
    replace p118 := eq_true p118
    replace q118 := eq_true q118
    go_enter Tryd.func58, Tryd.ntmps58
    go_wp2
    go_loopg [21] k (fun kq v21 w' => ∃ (x21_1 : Int), v21 = .int .i64 x21_1 ∧ Aside0 (reedsolomon_matrix_Check.l0 kq ((rd_L1 l0 0).length : Int) l0 (l0.length : Int) x21_1 = some r) ∧ Aside0 (kq ≤ k) ∧ Drawn0 w w')
    case atStart => exact ⟨(0), (by first | rfl | (simp; done) | (simp [*]; done)), H', ⟨Nat.le_refl _⟩, by repeat (first | exact Drawn0.refl _ | apply Drawn0.step)⟩
    case round =>
     clear H'
     try clear c1
     try clear p1
     try clear q1
     try clear hx1
     try clear qi1
     try clear c2
     try clear c2b0
     try clear c2b1
     try clear c2b2
     try clear p2
     try clear c3
     try clear c3b0
     try clear c3b1
     try clear c4
     try clear c4b0
     try clear c4b1
     try clear c4b2
     try clear hx118_0
     try clear p118
     try clear q118
     obtain ⟨x21_1, rfl, HA, HK1, ⟨m1, rfl⟩⟩ := hrel
     cases gk with
     | zero => exact absurd HA.out (by simp [reedsolomon_matrix_Check.l0])
     | succ k1 =>
      have H := HA.out
      clear HA
      simp only [reedsolomon_matrix_Check.l0] at H
      by_cases c5 : x21_1 < (l0.length : Int)
      ·rw [if_pos c5] at H
       have c5b0 : decide (x21_1 < (l0.length : Int)) = true := decide_eq_true c5
       clear c5
       by_cases c6 : 0 ≤ x21_1
       ·rw [if_pos c6] at H
        have c6b0 : decide (0 ≤ x21_1) = true := decide_eq_true c6
        clear c6
        by_cases c7 : x21_1 < (l0.length : Int)
        ·rw [if_pos c7] at H
         have c7b0 : decide (x21_1 < (l0.length : Int)) = true := decide_eq_true c7
         clear c7
         by_cases c8 : ((rd_L1 l0 x21_1).length : Int) = ((rd_L1 l0 0).length : Int)
         ·rw [if_pos c8] at H
          have c8b0 : (((rd_L1 l0 x21_1).length : Int) == ((rd_L1 l0 0).length : Int)) = true := beq_iff_eq.mpr c8
          have c8b1 : (((rd_L1 l0 x21_1).length : Int) != ((rd_L1 l0 0).length : Int)) = false := bne_eq_false_iff_eq.mpr c8
          have c8b2 : ((rd_L1 l0 x21_1).length == (rd_L1 l0 0).length) = true := by first | simpa using c8 | (simp at c8 ⊢; omega)
          clear c8
          have H' := Aside0.mk H
          clear H
          have p119 : 0 ≤ (x21_1 : Int) := dA
          have q119 : x21_1 < (l0.length : Int) := dA
          obtain ⟨ad119, A119_0, c119_0, e119, hx119_0, hl119_0, hi119_0⟩ := at_L1 HR0.out x21_1 p119 q119
          obtain rfl : ad118 = ad119 := (by injection e119)
          have HR119_0 := Aside0.mk hi119_0
          have HC119_0 := Aside0.mk hl119_0
          clear hi119_0 hl119_0
          replace p119 := eq_true p119
          replace q119 := eq_true q119
          go_wp2
          go_roundg k1
          case measure => have := HK1.out; omega
          case rel => exact ⟨(wrap64 (x21_1 + 1)), (by first | rfl | (simp; done) | (simp [*]; done)), H', ⟨by have := HK1.out; omega⟩, by repeat (first | exact Drawn0.refl _ | apply Drawn0.step)⟩
         ·rw [if_neg c8] at H
          have c8b0 : (((rd_L1 l0 x21_1).length : Int) == ((rd_L1 l0 0).length : Int)) = false := beq_eq_false_iff_ne.mpr c8
          have c8b1 : (((rd_L1 l0 x21_1).length : Int) != ((rd_L1 l0 0).length : Int)) = true := bne_iff_ne.mpr c8
          have c8b2 : ((rd_L1 l0 x21_1).length == (rd_L1 l0 0).length) = false := by first | simpa using c8 | (simp at c8 ⊢; omega)
          obtain rfl := Option.some.inj H
          have p119 : 0 ≤ (x21_1 : Int) := dA
          have q119 : x21_1 < (l0.length : Int) := dA
          obtain ⟨ad119, A119_0, c119_0, e119, hx119_0, hl119_0, hi119_0⟩ := at_L1 HR0.out x21_1 p119 q119
          obtain rfl : ad118 = ad119 := (by injection e119)
          have HR119_0 := Aside0.mk hi119_0
          have HC119_0 := Aside0.mk hl119_0
          clear hi119_0 hl119_0
          replace p119 := eq_true p119
          replace q119 := eq_true q119
          (try clear hce6_)
          have hce6_ : w.cell? ⟨6, 0, none⟩ = some (.iface te6_ xe6_) := HE6_.out
          go_wp2
          go_ret
          first | exact ⟨(fun _ => te6_), (fun _ => xe6_), by first | rfl | (simp; done) | (simp [*]; done), by repeat (first | exact Drawn0.refl _ | apply Drawn0.step)⟩ | exact ⟨⟨(fun _ => te6_), (fun _ => xe6_), by first | rfl | (simp; done) | (simp [*]; done)⟩, by repeat (first | exact Drawn0.refl _ | apply Drawn0.step)⟩
        ·rw [if_neg c7] at H
         exact absurd H (by simp)
       ·rw [if_neg c6] at H
        exact absurd H (by simp)
      ·rw [if_neg c5] at H
       have c5b0 : decide (x21_1 < (l0.length : Int)) = false := decide_eq_false c5
       clear c5
       obtain rfl := Option.some.inj H
       go_wp2
       go_ret
       first | exact ⟨(fun _ => 0), (fun _ => .nilIface), by first | rfl | (simp; done) | (simp [*]; done), by repeat (first | exact Drawn0.refl _ | apply Drawn0.step)⟩ | exact ⟨⟨(fun _ => 0), (fun _ => .nilIface), by first | rfl | (simp; done) | (simp [*]; done)⟩, by repeat (first | exact Drawn0.refl _ | apply Drawn0.step)⟩
  ·rw [if_neg c3] at H
   exact absurd H (by simp)


/-! ### reedsolomon_DoorCheck: function 50 -/
def reedsolomon_DoorCheck.f (k : Nat) (l0 : List (List Int)) : Option (Option Int) := (reedsolomon_matrix_Check.f k l0).bind fun t120 => (some t120)
theorem reedsolomon_DoorCheck.mono : ∀ a0 k, LeO (reedsolomon_DoorCheck.f k a0) (reedsolomon_DoorCheck.f (k + 1) a0) := by
 intro a0 k
 unfold reedsolomon_DoorCheck.f
 repeat' first
   | (with_reducible exact reedsolomon_matrix_Check.mono _ _)
   | (with_reducible exact LeO.refl _)
   | (with_reducible exact LeO.none _)
   | (with_reducible refine LeO.ite ?_ ?_)
   | (with_reducible refine LeO.bind ?_ (fun _ => ?_))
   | exact reedsolomon_matrix_Check.mono _ _
   | exact LeO.none _
   | refine LeO.ite ?_ ?_
   | refine LeO.bind ?_ (fun _ => ?_)
set_option maxHeartbeats 8000000 in
set_option maxRecDepth 100000 in
theorem reedsolomon_DoorCheck.calls (k : Nat) (A0 : Option Addr) (c0 : Nat) (l0 : List (List Int)) (r : Option Int) (w : World) (hT : TabOK w) (hr0 : Kd.C (Kd.slice 5 (Kd.int .u8)) w A0 l0.length l0) (hc0 : l0.length ≤ c0) (h : reedsolomon_DoorCheck.f k l0 = some r) :
  Calls Tryd.prog 50 #[.slice A0 l0.length c0] w fun e w' => ∃ (T_ : Int → TypeId) (X_ : Int → Value), e = .returned (errW T_ X_ r) ∧ Drawn0 w w' := by
 have HT := Aside0.mk hT
 clear hT
 have HR0 := Aside0.mk hr0
 have HC0 := Aside0.mk hc0
 clear hr0 hc0
 have H : ((reedsolomon_matrix_Check.f k l0).bind fun t120 => (some t120)) = some r := h
 clear h
 replace H := Option.bind_eq_some_iff.mp H
 obtain ⟨t120, A20, H⟩ := H
 replace H : (some t120) = some r := H
 have A2 := Aside0.mk A20
 clear A20
 obtain rfl := Option.some.inj H
 go_enter Tryd.func50, Tryd.ntmps50
 go_wp2_with (first | ((with_reducible refine gate_callee (f := 58) rfl ?_); refine goesL_ (some 4) rfl rfl Tryd.func58 (by kernel_rfl) rfl #[.slice A0 l0.length c0] rfl aV ?_; (with_reducible refine (reedsolomon_matrix_Check.calls k _ _ l0 t120 _ ?side1 ?side2 ?side3 A2.out).mono ?_); (case side1 => exact HT.out); (case side2 => repeat (first | exact HR0.out | (with_reducible refine Kd.C_alloc ?_ _) | (with_reducible refine Kd.C_drewN ?_ _) | (with_reducible refine Kd.C_drew ?_))); (case side3 => exact HC0.out); rintro e w' ⟨Tt120, Xt120, rfl, ⟨nd, rfl⟩⟩; refine ⟨_, rfl, ?_⟩; (try simp only [errW_none, errW_some])))
 go_ret
 first | exact ⟨Tt120, Xt120, by first | rfl | (simp; done) | (simp [*]; done), by repeat (first | exact Drawn0.refl _ | apply Drawn0.step)⟩ | exact ⟨⟨Tt120, Xt120, by first | rfl | (simp; done) | (simp [*]; done)⟩, by repeat (first | exact Drawn0.refl _ | apply Drawn0.step)⟩


/-! ### impl_isMatrix: function 38 -/
def impl_isMatrix.f (k : Nat) (l0 : List (List Int)) : Option (Bool) := (reedsolomon_DoorCheck.f k l0).bind fun t121 => (if t121.isNone = true then (some true) else (some false))
theorem impl_isMatrix.mono : ∀ a0 k, LeO (impl_isMatrix.f k a0) (impl_isMatrix.f (k + 1) a0) := by
 intro a0 k
 unfold impl_isMatrix.f
 repeat' first
   | (with_reducible exact reedsolomon_DoorCheck.mono _ _)
   | (with_reducible exact LeO.refl _)
   | (with_reducible exact LeO.none _)
   | (with_reducible refine LeO.ite ?_ ?_)
   | (with_reducible refine LeO.bind ?_ (fun _ => ?_))
   | exact reedsolomon_DoorCheck.mono _ _
   | exact LeO.none _
   | refine LeO.ite ?_ ?_
   | refine LeO.bind ?_ (fun _ => ?_)
set_option maxHeartbeats 8000000 in
set_option maxRecDepth 100000 in
theorem impl_isMatrix.calls (k : Nat) (A0 : Option Addr) (c0 : Nat) (l0 : List (List Int)) (r : Bool) (w : World) (hT : TabOK w) (hr0 : Kd.C (Kd.slice 5 (Kd.int .u8)) w A0 l0.length l0) (hc0 : l0.length ≤ c0) (h : impl_isMatrix.f k l0 = some r) :
  Calls Tryd.prog 38 #[.slice A0 l0.length c0] w fun e w' => e = .returned (.bool r) ∧ Drawn0 w w' := by
 have hu60 := Tryd.underlying60
 have HT := Aside0.mk hT
 clear hT
 have HR0 := Aside0.mk hr0
 have HC0 := Aside0.mk hc0
 clear hr0 hc0
 have H : ((reedsolomon_DoorCheck.f k l0).bind fun t121 => (if t121.isNone = true then (some true) else (some false))) = some r := h
 clear h
 replace H := Option.bind_eq_some_iff.mp H
 obtain ⟨t121, A20, H⟩ := H
 replace H : (if t121.isNone = true then (some true) else (some false)) = some r := H
 have A2 := Aside0.mk A20
 clear A20
 rcases t121 with _ | q122
 ·have H1 : (some true) = some r := by rw [if_pos (show (none : Option Int).isNone = true by rfl)] at H; exact H
  clear H
  have H := H1
  clear H1
  try simp only [errW_none, errW_some]
  obtain rfl := Option.some.inj H
  go_enter Tryd.func38, Tryd.ntmps38
  go_wp2_with (first | ((with_reducible refine gate_callee (f := 50) rfl ?_); refine goesL_ (some 4) rfl rfl Tryd.func50 (by kernel_rfl) rfl #[.slice A0 l0.length c0] rfl aV ?_; (with_reducible refine (reedsolomon_DoorCheck.calls k _ _ l0 none _ ?side1 ?side2 ?side3 A2.out).mono ?_); (case side1 => exact HT.out); (case side2 => repeat (first | exact HR0.out | (with_reducible refine Kd.C_alloc ?_ _) | (with_reducible refine Kd.C_drewN ?_ _) | (with_reducible refine Kd.C_drew ?_))); (case side3 => exact HC0.out); rintro e w' ⟨Tt121, Xt121, rfl, ⟨nd, rfl⟩⟩; refine ⟨_, rfl, ?_⟩; (try simp only [errW_none, errW_some])))
  go_ret
  exact ⟨by first | rfl | (simp; done) | (simp [*]; done), by repeat (first | exact Drawn0.refl _ | apply Drawn0.step)⟩
 ·have H1 : (some false) = some r := by rw [if_neg (show ¬ (some q122).isNone = true by simp)] at H; exact H
  clear H
  have H := H1
  clear H1
  try simp only [errW_none, errW_some]
  obtain rfl := Option.some.inj H
  go_enter Tryd.func38, Tryd.ntmps38
  go_wp2_with (first | ((with_reducible refine gate_callee (f := 50) rfl ?_); refine goesL_ (some 4) rfl rfl Tryd.func50 (by kernel_rfl) rfl #[.slice A0 l0.length c0] rfl aV ?_; (with_reducible refine (reedsolomon_DoorCheck.calls k _ _ l0 (some q122) _ ?side1 ?side2 ?side3 A2.out).mono ?_); (case side1 => exact HT.out); (case side2 => repeat (first | exact HR0.out | (with_reducible refine Kd.C_alloc ?_ _) | (with_reducible refine Kd.C_drewN ?_ _) | (with_reducible refine Kd.C_drew ?_))); (case side3 => exact HC0.out); rintro e w' ⟨Tt121, Xt121, rfl, ⟨nd, rfl⟩⟩; refine ⟨_, rfl, ?_⟩; (try simp only [errW_none, errW_some])))
  go_ret
  exact ⟨by first | rfl | (simp; done) | (simp [*]; done), by repeat (first | exact Drawn0.refl _ | apply Drawn0.step)⟩


/-! ### reedsolomon_galMultiply: function 47 -/
theorem reedsolomon_galMultiply.zero (a b : Nat) (ha : a < 256) (hb : b < 256) (h : a = 0 ∨ b = 0) (w : World) :
  Calls Tryd.prog 47 #[.int .u8 a, .int .u8 b] w fun e w' => e = .returned (.int .u8 0) ∧ Drawn0 w w' := by
 by_cases h0 : a = 0
 ·subst h0
  go_enter Tryd.func47, Tryd.ntmps47
  go_wp2
  go_ret
  exact ⟨rfl, Drawn0.refl _⟩
 ·obtain rfl : b = 0 := by omega
  have h1 : ((a : Int) == 0) = false := by rw [beq_eq_false_iff_ne]; omega
  go_enter Tryd.func47, Tryd.ntmps47
  go_wp2
  go_ret
  exact ⟨rfl, Drawn0.refl _⟩
set_option maxRecDepth 100000 in
theorem reedsolomon_galMultiply.small (a b x y z : Nat) (ha : a < 256) (hb : b < 256) (hx : x < 256) (hy : y < 256) (h1 : ((a : Int) == 0) = false) (h2 : ((b : Int) == 0) = false) (hs : x + y < 255) (w : World)
  (ca : w.cell? ⟨2, a, none⟩ = some (.int .u8 x)) (cb : w.cell? ⟨2, b, none⟩ = some (.int .u8 y)) (cc : w.cell? ⟨3, x + y, none⟩ = some (.int .u8 z)) :
  Calls Tryd.prog 47 #[.int .u8 a, .int .u8 b] w fun e w' => e = .returned (.int .u8 z) ∧ Drawn0 w w' := by
 have cc2 : w.cell? ⟨3, ((x : Int) + (y : Int)).toNat, none⟩ = some (.int .u8 z) := by rw [show ((x : Int) + (y : Int)).toNat = x + y by omega]; exact cc
 go_enter Tryd.func47, Tryd.ntmps47
 go_wp2
 go_quiet (fail)
 go_wp2
 go_ret
 exact ⟨rfl, (Drawn0.refl _).step _⟩
set_option maxRecDepth 100000 in
theorem reedsolomon_galMultiply.large (a b x y z : Nat) (ha : a < 256) (hb : b < 256) (hx : x < 256) (hy : y < 256) (h1 : ((a : Int) == 0) = false) (h2 : ((b : Int) == 0) = false) (hs : 255 ≤ x + y) (w : World)
  (ca : w.cell? ⟨2, a, none⟩ = some (.int .u8 x)) (cb : w.cell? ⟨2, b, none⟩ = some (.int .u8 y)) (cc : w.cell? ⟨3, x + y - 255, none⟩ = some (.int .u8 z)) :
  Calls Tryd.prog 47 #[.int .u8 a, .int .u8 b] w fun e w' => e = .returned (.int .u8 z) ∧ Drawn0 w w' := by
 have cc2 : w.cell? ⟨3, ((x : Int) + (y : Int) - 255).toNat, none⟩ = some (.int .u8 z) := by rw [show ((x : Int) + (y : Int) - 255).toNat = x + y - 255 by omega]; exact cc
 go_enter Tryd.func47, Tryd.ntmps47
 go_wp2
 go_quiet (fail)
 go_wp2
 go_ret
 exact ⟨rfl, (Drawn0.refl _).step _⟩
theorem reedsolomon_galMultiply.any (a b : Nat) (ha : a < 256) (hb : b < 256) (w : World) (hT : TabOK w) :
  Calls Tryd.prog 47 #[.int .u8 a, .int .u8 b] w fun e w' => e = .returned (.int .u8 (Field.gm a b : Nat)) ∧ Drawn0 w w' := by
 unfold Field.gm
 by_cases h0 : a = 0 ∨ b = 0
 ·rw [if_pos h0]
  exact reedsolomon_galMultiply.zero a b ha hb h0 w
 ·rw [if_neg h0]
  have h1 : ((a : Int) == 0) = false := by rw [beq_eq_false_iff_ne]; omega
  have h2 : ((b : Int) == 0) = false := by rw [beq_eq_false_iff_ne]; omega
  have k1 := Field.lg_lt ⟨a, ha⟩
  have k2 := Field.lg_lt ⟨b, hb⟩
  have k3 := Field.lg_le ⟨a, ha⟩
  have k4 := Field.lg_le ⟨b, hb⟩
  dsimp only at k1 k2 k3 k4
  by_cases hs : 255 ≤ Field.lg a + Field.lg b
  ·rw [if_pos hs]
   exact reedsolomon_galMultiply.large a b _ _ _ ha hb k1 k2 h1 h2 hs w (hT.lg a ha) (hT.lg b hb) (hT.ex _ (by omega))
  ·rw [if_neg hs]
   exact reedsolomon_galMultiply.small a b _ _ _ ha hb k1 k2 h1 h2 (by omega) w (hT.lg a ha) (hT.lg b hb) (hT.ex _ (by omega))
def reedsolomon_galMultiply.f (a0 a1 : Int) : Option Int := if 0 ≤ a0 ∧ a0 ≤ 255 ∧ 0 ≤ a1 ∧ a1 ≤ 255 then some (Field.gm a0.toNat a1.toNat : Int) else none
theorem reedsolomon_galMultiply.calls (a0 a1 : Int) (r : Int) (w : World) (hT : TabOK w) (h : reedsolomon_galMultiply.f a0 a1 = some r) :
  Calls Tryd.prog 47 #[.int .u8 a0, .int .u8 a1] w fun e w' => e = .returned (.int .u8 r) ∧ Drawn0 w w' := by
 unfold reedsolomon_galMultiply.f at h
 split at h
 ·rename_i hc
  injection h with h
  subst h
  obtain ⟨x, rfl⟩ : ∃ x : Nat, a0 = (x : Int) := ⟨a0.toNat, by omega⟩
  obtain ⟨y, rfl⟩ : ∃ y : Nat, a1 = (y : Int) := ⟨a1.toNat, by omega⟩
  rw [Int.toNat_natCast, Int.toNat_natCast]
  exact reedsolomon_galMultiply.any x y (by omega) (by omega) w hT
 ·cases h


/-! ### reedsolomon_newMatrix: function 57 -/
def reedsolomon_newMatrix.l0 : Nat → Int → List (List Int) → Int → Int → Option ((List (List Int)) × Option Int)
 | 0, _, _, _, _ => none
 | k + 1, x1, x6, x17, x18 => if x18 < x17 then (if 0 ≤ x1 then (if (x1 : Int).toNat ≤ 281474976710656 then (if 0 ≤ x18 then (if x18 < (x6.length : Int) then (reedsolomon_newMatrix.l0 k x1 (x6.set (x18 : Int).toNat (List.replicate (x1 : Int).toNat 0)) x17 (wrap64 (x18 + 1))) else (none)) else (none)) else (none)) else (none)) else (some (x6, none))
def reedsolomon_newMatrix.f (k : Nat) (a0 : Int) (a1 : Int) : Option ((List (List Int)) × Option Int) := if a0 ≤ 0 then (some (([] : List (List Int)), some 4)) else (if a1 ≤ 0 then (some (([] : List (List Int)), some 5)) else (if 0 ≤ a0 then (if (a0 : Int).toNat ≤ 11728124029610 then ((some (List.replicate (a0 : Int).toNat [] : List (List Int))).bind fun y123 => (reedsolomon_newMatrix.l0 k a1 y123 (y123.length : Int) 0)) else (none)) else (none)))
theorem reedsolomon_newMatrix.mono_l : ∀ k, (∀ y0 y1 y2 y3, LeO (reedsolomon_newMatrix.l0 k y0 y1 y2 y3) (reedsolomon_newMatrix.l0 (k + 1) y0 y1 y2 y3))
 | 0 => fun _ _ _ _ r h => by simp [reedsolomon_newMatrix.l0] at h
 | k + 1 => by
  have ih0 := reedsolomon_newMatrix.mono_l k
  ·intro y0 y1 y2 y3
   unfold reedsolomon_newMatrix.l0
   repeat' first
   | (with_reducible exact ih0 _ _ _ _)
   | (with_reducible exact LeO.refl _)
   | (with_reducible exact LeO.none _)
   | (with_reducible refine LeO.ite ?_ ?_)
   | (with_reducible refine LeO.bind ?_ (fun _ => ?_))
   | exact ih0 _ _ _ _
   | exact LeO.none _
   | refine LeO.ite ?_ ?_
   | refine LeO.bind ?_ (fun _ => ?_)
theorem reedsolomon_newMatrix.mono : ∀ a0 a1 k, LeO (reedsolomon_newMatrix.f k a0 a1) (reedsolomon_newMatrix.f (k + 1) a0 a1) := by
 intro a0 a1 k
 have ih0 := reedsolomon_newMatrix.mono_l k
 unfold reedsolomon_newMatrix.f
 repeat' first
   | (with_reducible exact ih0 _ _ _ _)
   | (with_reducible exact LeO.refl _)
   | (with_reducible exact LeO.none _)
   | (with_reducible refine LeO.ite ?_ ?_)
   | (with_reducible refine LeO.bind ?_ (fun _ => ?_))
   | exact ih0 _ _ _ _
   | exact LeO.none _
   | refine LeO.ite ?_ ?_
   | refine LeO.bind ?_ (fun _ => ?_)
set_option maxHeartbeats 8000000 in
set_option maxRecDepth 100000 in
theorem reedsolomon_newMatrix.calls (k : Nat) (a0 : Int) (a1 : Int) (r1 : List (List Int)) (r2 : Option Int) (w : World) (hT : TabOK w) (h : reedsolomon_newMatrix.f k a0 a1 = some (r1, r2)) :
  Calls Tryd.prog 57 #[.int .i64 a0, .int .i64 a1] w fun e w' => ∃ (T_ : Int → TypeId) (X_ : Int → Value), ∃ v0_ : Value, e = .returned (.tuple #[v0_, errW T_ X_ r2]) ∧ Kd.S (Kd.slice 5 (Kd.int .u8)) 22 w' w.heap.size (fun _ => True) v0_ r1 ∧ Below w.heap.size w w' := by
 obtain ⟨te4_, xe4_, he4_⟩ := hT.er 4 (by decide)
 have HE4_ := Aside0.mk he4_
 clear he4_
 obtain ⟨te5_, xe5_, he5_⟩ := hT.er 5 (by decide)
 have HE5_ := Aside0.mk he5_
 clear he5_
 have HT := Aside0.mk hT
 clear hT
 have HB := Aside0.mk (Below.refl w.heap.size w)
 have H : (if a0 ≤ 0 then (some (([] : List (List Int)), some 4)) else (if a1 ≤ 0 then (some (([] : List (List Int)), some 5)) else (if 0 ≤ a0 then (if (a0 : Int).toNat ≤ 11728124029610 then ((some (List.replicate (a0 : Int).toNat [] : List (List Int))).bind fun y123 => (reedsolomon_newMatrix.l0 k a1 y123 (y123.length : Int) 0)) else (none)) else (none)))) = some (r1, r2) := h
 clear h
 by_cases c3 : a0 ≤ 0
 ·rw [if_pos c3] at H
  have c3b0 : decide (a0 ≤ 0) = true := decide_eq_true c3
  clear c3
  simp only [Option.some.injEq, Prod.mk.injEq] at H
  obtain ⟨rfl, rfl⟩ := H
  (try clear hce4_)
  have hce4_ : w.cell? ⟨4, 0, none⟩ = some (.iface te4_ xe4_) := ((show Below w.heap.size w w from by repeat (first | (with_reducible first | exact HB.out | apply below_alloc | apply pw_below_drewN | apply below_drew1) | exact HB.out)).cell (World.block_lt_of_cell? _ _ HE4_.out)).trans HE4_.out
  go_enter Tryd.func57, Tryd.ntmps57
  go_wp2
  repeat (go_quiet (fail); try go_wp2)
  go_ret2
  exact ⟨(fun _ => te4_), (fun _ => xe4_), (.slice none 0 0), by first | rfl | (simp [errW_none, errW_some] <;> rfl) | (simp [*, errW_none, errW_some] <;> rfl), by first | exact Kd.V_nil _ _ _ _ _ | exact Kd.R_nil _ _ _ _ _ | exact Kd.S_nil _ _ _ _ _ | exact Kd.N_nil _ _ _ _ _ | exact Kd.Q_nil _ _ _ _ _, bB⟩
 ·rw [if_neg c3] at H
  have c3b0 : decide (a0 ≤ 0) = false := decide_eq_false c3
  clear c3
  by_cases c4 : a1 ≤ 0
  ·rw [if_pos c4] at H
   have c4b0 : decide (a1 ≤ 0) = true := decide_eq_true c4
   clear c4
   simp only [Option.some.injEq, Prod.mk.injEq] at H
   obtain ⟨rfl, rfl⟩ := H
   (try clear hce5_)
   have hce5_ : w.cell? ⟨5, 0, none⟩ = some (.iface te5_ xe5_) := ((show Below w.heap.size w w from by repeat (first | (with_reducible first | exact HB.out | apply below_alloc | apply pw_below_drewN | apply below_drew1) | exact HB.out)).cell (World.block_lt_of_cell? _ _ HE5_.out)).trans HE5_.out
   go_enter Tryd.func57, Tryd.ntmps57
   go_wp2
   repeat (go_quiet (fail); try go_wp2)
   go_ret2
   exact ⟨(fun _ => te5_), (fun _ => xe5_), (.slice none 0 0), by first | rfl | (simp [errW_none, errW_some] <;> rfl) | (simp [*, errW_none, errW_some] <;> rfl), by first | exact Kd.V_nil _ _ _ _ _ | exact Kd.R_nil _ _ _ _ _ | exact Kd.S_nil _ _ _ _ _ | exact Kd.N_nil _ _ _ _ _ | exact Kd.Q_nil _ _ _ _ _, bB⟩
  ·rw [if_neg c4] at H
   have c4b0 : decide (a1 ≤ 0) = false := decide_eq_false c4
   clear c4
   by_cases c5 : 0 ≤ a0
   ·rw [if_pos c5] at H
    have c5b0 := eq_true c5
    have c5b1 : decide (0 ≤ a0) = true := decide_eq_true c5
    clear c5
    by_cases c6 : (a0 : Int).toNat ≤ 11728124029610
    ·rw [if_pos c6] at H
     have c6b0 := eq_true c6
     have c6b1 : decide ((a0 : Int).toNat ≤ 11728124029610) = true := decide_eq_true c6
     clear c6
     obtain ⟨y123, hy123⟩ : ∃ y_ : List (List Int), y_ = (List.replicate (a0 : Int).toNat []) := ⟨_, rfl⟩
     replace H : (reedsolomon_newMatrix.l0 k a1 y123 (y123.length : Int) 0) = some (r1, r2) := by first | (rw [hy123]; with_reducible exact H) | (have H2_ := (Option.bind_some _ _).symm.trans H; rw [hy123]; with_reducible exact H2_) | (have H2_ := (Option.bind_some _ _).symm.trans H; with_reducible exact H2_) | with_reducible exact H | (rw [hy123]; exact H) | exact H
     have Ny123 := Aside0.mk hy123
     clear hy123
     have H' := Aside0.mk H
     clear H
     go_enter Tryd.func57, Tryd.ntmps57
     go_wp2_with (first | ((with_reducible refine gate_dst (N := 15) rfl ?_); refine Kd.S_make (Kd.slice 5 (Kd.int .u8)) _ 22 rfl (N := 15) rfl 31 _ _ rfl a0 rfl rfl Tryd.underlying31 (.slice none 0 0) 24 info22 rfl (by decide) (by omega) [] (ok := fun _ => True) (okp := fun _ => True) ⟨_, rfl, Kd.R_nil _ _ _ _ _⟩ (fun _ hk => hk) trivial dA (Nat.le_trans (Nat.mul_le_mul_right _ (dA : a0.toNat ≤ 11728124029610)) (by omega)) (Below.refl _ _) (Nat.le_refl _) ?_; intro v124 w7 ho8 hb hg_ hnew_; clear hg_ hnew_; (first | rw [← Ny123.out] at ho8 | (simp only [Int.reduceToNat] at ho8; rw [← Ny123.out] at ho8)); have n0_ := Aside0.mk (Kd.S_lower ho8 (below_size bB)); have n1_ := Aside0.mk (below_step bB hb); clear HB; have HO125 := n0_; have HB := n1_; clear n0_ n1_; clear hb ho8; obtain ⟨Ao9, co9, eo9⟩ := Kd.S_slice HO125.out; subst eo9))
     repeat (go_quiet (first | ((with_reducible refine gate_dst (N := 15) rfl ?_); refine Kd.S_make (Kd.slice 5 (Kd.int .u8)) _ 22 rfl (N := 15) rfl 31 _ _ rfl a0 rfl rfl Tryd.underlying31 (.slice none 0 0) 24 info22 rfl (by decide) (by omega) [] (ok := fun _ => True) (okp := fun _ => True) ⟨_, rfl, Kd.R_nil _ _ _ _ _⟩ (fun _ hk => hk) trivial dA (Nat.le_trans (Nat.mul_le_mul_right _ (dA : a0.toNat ≤ 11728124029610)) (by omega)) (Below.refl _ _) (Nat.le_refl _) ?_; intro v124 w7 ho8 hb hg_ hnew_; clear hg_ hnew_; (first | rw [← Ny123.out] at ho8 | (simp only [Int.reduceToNat] at ho8; rw [← Ny123.out] at ho8)); have n0_ := Aside0.mk (Kd.S_lower ho8 (below_size bB)); have n1_ := Aside0.mk (below_step bB hb); clear HB; have HO125 := n0_; have HB := n1_; clear n0_ n1_; clear hb ho8; obtain ⟨Ao9, co9, eo9⟩ := Kd.S_slice HO125.out; subst eo9)); try go_wp2_with (first | ((with_reducible refine gate_dst (N := 15) rfl ?_); refine Kd.S_make (Kd.slice 5 (Kd.int .u8)) _ 22 rfl (N := 15) rfl 31 _ _ rfl a0 rfl rfl Tryd.underlying31 (.slice none 0 0) 24 info22 rfl (by decide) (by omega) [] (ok := fun _ => True) (okp := fun _ => True) ⟨_, rfl, Kd.R_nil _ _ _ _ _⟩ (fun _ hk => hk) trivial dA (Nat.le_trans (Nat.mul_le_mul_right _ (dA : a0.toNat ≤ 11728124029610)) (by omega)) (Below.refl _ _) (Nat.le_refl _) ?_; intro v124 w7 ho8 hb hg_ hnew_; clear hg_ hnew_; (first | rw [← Ny123.out] at ho8 | (simp only [Int.reduceToNat] at ho8; rw [← Ny123.out] at ho8)); have n0_ := Aside0.mk (Kd.S_lower ho8 (below_size bB)); have n1_ := Aside0.mk (below_step bB hb); clear HB; have HO125 := n0_; have HB := n1_; clear n0_ n1_; clear hb ho8; obtain ⟨Ao9, co9, eo9⟩ := Kd.S_slice HO125.out; subst eo9)))
     go_loopg [18] k (fun kq v18 w' => ∃ (x6_1 : List (List Int)) (x18_1 : Int), v18 = .int .i64 x18_1 ∧ Aside0 (reedsolomon_newMatrix.l0 kq a1 x6_1 (y123.length : Int) x18_1 = some (r1, r2)) ∧ Aside0 (kq ≤ k) ∧ Aside0 (Kd.S (Kd.slice 5 (Kd.int .u8)) 22 w' w.heap.size (fun _ => True) (.slice Ao9 y123.length co9) x6_1) ∧ Aside0 (Below w.heap.size w w'))
     case atStart => exact ⟨(y123), (0), (by first | rfl | (simp; done) | (simp [*]; done)), H', ⟨Nat.le_refl _⟩, ⟨by (with_reducible repeat (first | apply Kd.S_alloc | apply Kd.S_drewN | apply Kd.S_drew)); exact HO125.out⟩, ⟨bB⟩⟩
     case round =>
      clear H'
      try clear p2
      try clear c3
      try clear c3b0
      try clear c4
      try clear c4b0
      try clear c5
      try clear c5b0
      try clear c5b1
      try clear c6
      try clear c6b0
      try clear c6b1
      obtain ⟨x6_1, x18_1, rfl, HA, HK1, HO_6, HB⟩ := hrel
      have hl6_1 := (Kd.S_reads' HO_6.out).1
      rw [hl6_1] at HO_6
      (try simp only [hl6_1])
      cases gk with
      | zero => exact absurd HA.out (by simp [reedsolomon_newMatrix.l0])
      | succ k1 =>
       have H := HA.out
       clear HA
       simp only [reedsolomon_newMatrix.l0] at H
       by_cases c10 : x18_1 < (y123.length : Int)
       ·rw [if_pos c10] at H
        have c10b0 : decide (x18_1 < (y123.length : Int)) = true := decide_eq_true c10
        (try (have c10b0hl6_1 := c10b0; rw [hl6_1] at c10b0hl6_1))
        clear c10
        by_cases c11 : 0 ≤ a1
        ·rw [if_pos c11] at H
         have c11b0 := eq_true c11
         have c11b1 : decide (0 ≤ a1) = true := decide_eq_true c11
         clear c11
         by_cases c12 : (a1 : Int).toNat ≤ 281474976710656
         ·rw [if_pos c12] at H
          have c12b0 := eq_true c12
          have c12b1 : decide ((a1 : Int).toNat ≤ 281474976710656) = true := decide_eq_true c12
          clear c12
          obtain ⟨y126, hy126⟩ : ∃ y_ : List Int, y_ = (List.replicate (a1 : Int).toNat 0) := ⟨_, rfl⟩
          replace H : (if 0 ≤ x18_1 then (if x18_1 < (x6_1.length : Int) then (reedsolomon_newMatrix.l0 k1 a1 (x6_1.set (x18_1 : Int).toNat y126) (y123.length : Int) (wrap64 (x18_1 + 1))) else (none)) else (none)) = some (r1, r2) := by first | (rw [hy126]; with_reducible exact H) | (have H2_ := (Option.bind_some _ _).symm.trans H; rw [hy126]; with_reducible exact H2_) | (have H2_ := (Option.bind_some _ _).symm.trans H; with_reducible exact H2_) | with_reducible exact H | (rw [hy126]; exact H) | exact H
          have Ny126 := Aside0.mk hy126
          clear hy126
          by_cases c13 : 0 ≤ x18_1
          ·rw [if_pos c13] at H
           have c13b0 : decide (0 ≤ x18_1) = true := decide_eq_true c13
           clear c13
           by_cases c14 : x18_1 < (x6_1.length : Int)
           ·rw [if_pos c14] at H
            have c14b0 : decide (x18_1 < (x6_1.length : Int)) = true := decide_eq_true c14
            (try (have c14b0hl6_1 := c14b0; rw [hl6_1] at c14b0hl6_1))
            clear c14
            obtain ⟨y129, hy129⟩ : ∃ y_ : List (List Int), y_ = (x6_1.set (x18_1 : Int).toNat y126) := ⟨_, rfl⟩
            replace H : (reedsolomon_newMatrix.l0 k1 a1 y129 (y123.length : Int) (wrap64 (x18_1 + 1))) = some (r1, r2) := by first | (rw [hy129]; with_reducible exact H) | (have H2_ := (Option.bind_some _ _).symm.trans H; rw [hy129]; with_reducible exact H2_) | (have H2_ := (Option.bind_some _ _).symm.trans H; with_reducible exact H2_) | with_reducible exact H | (rw [hy129]; exact H) | exact H
            have Ny129 := Aside0.mk hy129
            clear hy129
            have H' := Aside0.mk H
            clear H
            go_wp2_with (first | ((with_reducible refine gate_dst (N := 24) rfl ?_); refine Kd.R_make (Kd.int .u8) _ 5 rfl (N := 24) rfl 22 _ _ rfl a1 rfl rfl Tryd.underlying22 (.int .u8 0) 1 info5 rfl (by decide) (by omega) 0 (ok := fun _ => True) (okp := fun _ => True) rfl (fun _ hk => hk) trivial dA (Nat.le_trans (Nat.mul_le_mul_right _ (dA : a1.toNat ≤ 281474976710656)) (by omega)) (Below.refl _ _) (Nat.le_refl _) ?_; intro v127 w16 ho17 hb hg_ hnew_; clear hg_ hnew_; (first | rw [← Ny126.out] at ho17 | (simp only [Int.reduceToNat] at ho17; rw [← Ny126.out] at ho17)); have n0_ := Aside0.mk (Kd.S_elder' (by (with_reducible repeat (first | apply Kd.S_alloc | apply Kd.S_drewN | apply Kd.S_drew)); exact HO_6.out) (Kd.R_base ho17) hb); have n1_ := Aside0.mk (Kd.R_lower ho17 (below_size bB)); have n2_ := Aside0.mk (below_step bB hb); clear HO_6; clear HB; have HO_6 := n0_; have HO128 := n1_; have HB := n2_; clear n0_ n1_ n2_; clear hb ho17; have p15 : 0 ≤ (x18_1 : Int) := dA; have q15 : (x18_1 : Int) < ((x6_1.length : Int) : Int) := dA; obtain ⟨go15, co15, eo15, gb15, gl15, cl15, HG15⟩ := Kd.S_form HO_6.out (by omega); (first | cases eo15 | (injection eo15 with ea_ en_ ec_; (first | subst ea_ | (injection ea_ with ea_; subst ea_)); subst ec_; clear en_)); have GB15 := Aside0.mk gb15; have GG15 := Aside0.mk HG15; clear gb15 gl15 HG15; obtain ⟨_, ce15, hcl15, hM15, hcc15, hfr15, _, _⟩ := Kd.S_elem HO_6.out [] (x18_1 : Int) p15 q15; obtain ⟨ve15_0, rfl, ge15_0⟩ := hM15; have hx15_0 := hcc15 0 _ rfl; have hf15_0 := hfr15 0; (try simp only [show ((Kd.slice 5 (Kd.int .u8))).sz = 1 from rfl, Nat.mul_one, Nat.add_zero] at hx15_0); (try simp only [show ((Kd.slice 5 (Kd.int .u8))).sz = 1 from rfl, Nat.mul_one, Nat.add_zero] at hf15_0); (try clear hcl15); (try clear hcc15); (try clear hfr15); (try clear hM15); replace p15 := eq_true p15; replace q15 := eq_true q15; obtain ⟨Ao20, co20, eo20⟩ := Kd.R_slice HO128.out; subst eo20; have n_ := Aside0.mk (Kd.S_mono (ok' := (fun k_ => some k_ ≠ (.slice Ao20 y126.length co20 : Value).ownBlock)) HO_6.out (fun k_ hk => hk.2)); clear HO_6; have HO_6 := n_; clear n_; have HX18 := Aside0.mk (show Kd.S (Kd.slice 5 (Kd.int .u8)) 22 w16 w.heap.size (fun k_ => ((fun _ => True)) k_ ∧ ¬ ((fun k_ => some k_ = (.slice Ao20 y126.length co20 : Value).ownBlock)) k_) (.slice (some ⟨go15, 0, none⟩) x6_1.length co9) x6_1 from (by (with_reducible repeat (first | apply Kd.S_alloc | apply Kd.S_drewN | apply Kd.S_drew)); exact Kd.S_mono HO_6.out (fun k_ hk => ⟨trivial, fun e_ => hk e_⟩))); obtain ⟨oki18, ce18, hcl18, hM18, hcc18, hfr18, hoki18, hH18⟩ := Kd.S_elem HX18.out [] (x18_1 : Int) dA (by have h_ : (x18_1 : Int) < ((x6_1.length : Int) : Int) := dA; first | exact h_ | (have e_ := (Kd.S_reads' HO_6.out).1; omega) | simpa using h_); obtain ⟨ve18_0, rfl, ge18_0⟩ := hM18; have HP18 := Kd.S_seg hH18 dA (by have h_ : (x18_1 : Int) < ((x6_1.length : Int) : Int) := dA; first | exact h_ | (have e_ := (Kd.S_reads' HO_6.out).1; omega) | simpa using h_) (seg := [.slice Ao20 y126.length co20]) (j := 0) (show 1 ≤ 1 from by decide) (x' := y126) (Kd.M_row (Kd.R_mono (Kd.R_tight rfl (Kd.R_mono (ok' := fun k_ => ((fun _ => True)) k_ ∧ k_ ≠ go15) (Kd.R_apart' (HO128.out) (Kd.S_typed HO_6.out) (by decide)) (fun k_ hk => ⟨trivial, fun e_ => (hk.2) (by rw [e_]; rfl)⟩))) (fun _ h_ => Or.inr (h_)))) (fun _ hk => hk) (fun k_ hk_ => ((Kd.R_mono (ok' := fun k_ => ((fun _ => True)) k_ ∧ k_ ≠ go15) (Kd.R_apart' (HO128.out) (Kd.S_typed HO_6.out) (by decide)) (fun k_ hk => ⟨trivial, fun e_ => (hk.2) (by rw [e_]; rfl)⟩))).1 k_ hk_.symm); have hx18_0 := hcc18 0 _ rfl; (try simp only [show ((Kd.slice 5 (Kd.int .u8))).sz = 1 from rfl, Nat.mul_one, Nat.add_zero] at hx18_0); have hf18_0 := hfr18 0; (try simp only [show ((Kd.slice 5 (Kd.int .u8))).sz = 1 from rfl, Nat.mul_one, Nat.add_zero] at hf18_0); (try clear hcl18); (try clear hcc18); (try clear hfr18); (try clear hM18); (try clear hoki18); (try clear hH18); (try simp only [show ((Kd.slice 5 (Kd.int .u8))).sz = 1 from rfl, Nat.mul_one, Nat.add_zero] at HP18)) | ((with_reducible refine gate_store (t := 22) (p := 25) rfl ?_); (try (rw [drewN_self w16]; generalize hq_ : World.drewN w16 _ = w16; have n0_ := Aside0.mk (Kd.S_at hq_ HO_6.out); have n1_ := Aside0.mk (below_at hq_ HB.out); clear hq_ HO_6 HB; have HO_6 := n0_; have HB := n1_; clear n0_ n1_; (try (obtain ⟨Ao20, co20, eo20⟩ := Kd.R_slice HO128.out)); (try (subst eo20)); (try (have n_ := Aside0.mk (Kd.S_mono (ok' := (fun k_ => some k_ ≠ (.slice Ao20 y126.length co20 : Value).ownBlock)) HO_6.out (fun k_ hk => hk.2)); clear HO_6; have HO_6 := n_; clear n_)); (try (have HX18 := Aside0.mk (show Kd.S (Kd.slice 5 (Kd.int .u8)) 22 w16 w.heap.size (fun k_ => ((fun _ => True)) k_ ∧ ¬ ((fun k_ => some k_ = (.slice Ao20 y126.length co20 : Value).ownBlock)) k_) (.slice (some ⟨go15, 0, none⟩) x6_1.length co9) x6_1 from (by (with_reducible repeat (first | apply Kd.S_alloc | apply Kd.S_drewN | apply Kd.S_drew)); exact Kd.S_mono HO_6.out (fun k_ hk => ⟨trivial, fun e_ => hk e_⟩))))); (try (obtain ⟨oki18, ce18, hcl18, hM18, hcc18, hfr18, hoki18, hH18⟩ := Kd.S_elem HX18.out [] (x18_1 : Int) dA (by have h_ : (x18_1 : Int) < ((x6_1.length : Int) : Int) := dA; first | exact h_ | (have e_ := (Kd.S_reads' HO_6.out).1; omega) | simpa using h_))); (try (obtain ⟨ve18_0, rfl, ge18_0⟩ := hM18)); (try (have HP18 := Kd.S_seg hH18 dA (by have h_ : (x18_1 : Int) < ((x6_1.length : Int) : Int) := dA; first | exact h_ | (have e_ := (Kd.S_reads' HO_6.out).1; omega) | simpa using h_) (seg := [.slice Ao20 y126.length co20]) (j := 0) (show 1 ≤ 1 from by decide) (x' := y126) (Kd.M_row (Kd.R_mono (Kd.R_tight rfl (Kd.R_mono (ok' := fun k_ => ((fun _ => True)) k_ ∧ k_ ≠ go15) (Kd.R_apart' (HO128.out) (Kd.S_typed HO_6.out) (by decide)) (fun k_ hk => ⟨trivial, fun e_ => (hk.2) (by rw [e_]; rfl)⟩))) (fun _ h_ => Or.inr (h_)))) (fun _ hk => hk) (fun k_ hk_ => ((Kd.R_mono (ok' := fun k_ => ((fun _ => True)) k_ ∧ k_ ≠ go15) (Kd.R_apart' (HO128.out) (Kd.S_typed HO_6.out) (by decide)) (fun k_ hk => ⟨trivial, fun e_ => (hk.2) (by rw [e_]; rfl)⟩))).1 k_ hk_.symm))); (try (have hx18_0 := hcc18 0 _ rfl)); (try (try simp only [show ((Kd.slice 5 (Kd.int .u8))).sz = 1 from rfl, Nat.mul_one, Nat.add_zero] at hx18_0)); (try (have hf18_0 := hfr18 0)); (try (try simp only [show ((Kd.slice 5 (Kd.int .u8))).sz = 1 from rfl, Nat.mul_one, Nat.add_zero] at hf18_0)); (try (try clear hcl18); (try clear hcc18); (try clear hfr18); (try clear hM18); (try clear hoki18); (try clear hH18)); (try (try simp only [show ((Kd.slice 5 (Kd.int .u8))).sz = 1 from rfl, Nat.mul_one, Nat.add_zero] at HP18)))); refine store_event (t := 22) (p := 25) (v := ?vo_w19) (w1 := (w16.setCell ⟨go15, (x18_1 : Int).toNat, none⟩ (.slice Ao20 y126.length co20))) ?hg ?ho ?hn ?hr ?_; (case ho => rfl); (case hg => rfl); (case hn => rfl); (case hr => first | (go_simp; done) | (go_simp; rfl)); intro w19 hw; have hg : w16.grownBy w19 (some go15) := (by rw [hw]; exact HP18.2); have hp_ : Kd.S (Kd.slice 5 (Kd.int .u8)) 22 w19 w.heap.size (fun _ => True) (.slice (some ⟨go15, 0, none⟩) x6_1.length co9) y129 := (by rw [hw, Ny129.out]; exact HP18.1); clear HP18; have n0_ := Aside0.mk (hp_); have n1_ := Aside0.mk ((by rw [hw]; exact below_set (HB.out) GB15.out : Below w.heap.size w w19)); clear HO_6; clear HB; clear HO128; have HO_6 := n0_; have HB := n1_; clear n0_ n1_; clear hg hw hp_))
            repeat (go_quiet (first | ((with_reducible refine gate_dst (N := 24) rfl ?_); refine Kd.R_make (Kd.int .u8) _ 5 rfl (N := 24) rfl 22 _ _ rfl a1 rfl rfl Tryd.underlying22 (.int .u8 0) 1 info5 rfl (by decide) (by omega) 0 (ok := fun _ => True) (okp := fun _ => True) rfl (fun _ hk => hk) trivial dA (Nat.le_trans (Nat.mul_le_mul_right _ (dA : a1.toNat ≤ 281474976710656)) (by omega)) (Below.refl _ _) (Nat.le_refl _) ?_; intro v127 w16 ho17 hb hg_ hnew_; clear hg_ hnew_; (first | rw [← Ny126.out] at ho17 | (simp only [Int.reduceToNat] at ho17; rw [← Ny126.out] at ho17)); have n0_ := Aside0.mk (Kd.S_elder' (by (with_reducible repeat (first | apply Kd.S_alloc | apply Kd.S_drewN | apply Kd.S_drew)); exact HO_6.out) (Kd.R_base ho17) hb); have n1_ := Aside0.mk (Kd.R_lower ho17 (below_size bB)); have n2_ := Aside0.mk (below_step bB hb); clear HO_6; clear HB; have HO_6 := n0_; have HO128 := n1_; have HB := n2_; clear n0_ n1_ n2_; clear hb ho17; have p15 : 0 ≤ (x18_1 : Int) := dA; have q15 : (x18_1 : Int) < ((x6_1.length : Int) : Int) := dA; obtain ⟨go15, co15, eo15, gb15, gl15, cl15, HG15⟩ := Kd.S_form HO_6.out (by omega); (first | cases eo15 | (injection eo15 with ea_ en_ ec_; (first | subst ea_ | (injection ea_ with ea_; subst ea_)); subst ec_; clear en_)); have GB15 := Aside0.mk gb15; have GG15 := Aside0.mk HG15; clear gb15 gl15 HG15; obtain ⟨_, ce15, hcl15, hM15, hcc15, hfr15, _, _⟩ := Kd.S_elem HO_6.out [] (x18_1 : Int) p15 q15; obtain ⟨ve15_0, rfl, ge15_0⟩ := hM15; have hx15_0 := hcc15 0 _ rfl; have hf15_0 := hfr15 0; (try simp only [show ((Kd.slice 5 (Kd.int .u8))).sz = 1 from rfl, Nat.mul_one, Nat.add_zero] at hx15_0); (try simp only [show ((Kd.slice 5 (Kd.int .u8))).sz = 1 from rfl, Nat.mul_one, Nat.add_zero] at hf15_0); (try clear hcl15); (try clear hcc15); (try clear hfr15); (try clear hM15); replace p15 := eq_true p15; replace q15 := eq_true q15; obtain ⟨Ao20, co20, eo20⟩ := Kd.R_slice HO128.out; subst eo20; have n_ := Aside0.mk (Kd.S_mono (ok' := (fun k_ => some k_ ≠ (.slice Ao20 y126.length co20 : Value).ownBlock)) HO_6.out (fun k_ hk => hk.2)); clear HO_6; have HO_6 := n_; clear n_; have HX18 := Aside0.mk (show Kd.S (Kd.slice 5 (Kd.int .u8)) 22 w16 w.heap.size (fun k_ => ((fun _ => True)) k_ ∧ ¬ ((fun k_ => some k_ = (.slice Ao20 y126.length co20 : Value).ownBlock)) k_) (.slice (some ⟨go15, 0, none⟩) x6_1.length co9) x6_1 from (by (with_reducible repeat (first | apply Kd.S_alloc | apply Kd.S_drewN | apply Kd.S_drew)); exact Kd.S_mono HO_6.out (fun k_ hk => ⟨trivial, fun e_ => hk e_⟩))); obtain ⟨oki18, ce18, hcl18, hM18, hcc18, hfr18, hoki18, hH18⟩ := Kd.S_elem HX18.out [] (x18_1 : Int) dA (by have h_ : (x18_1 : Int) < ((x6_1.length : Int) : Int) := dA; first | exact h_ | (have e_ := (Kd.S_reads' HO_6.out).1; omega) | simpa using h_); obtain ⟨ve18_0, rfl, ge18_0⟩ := hM18; have HP18 := Kd.S_seg hH18 dA (by have h_ : (x18_1 : Int) < ((x6_1.length : Int) : Int) := dA; first | exact h_ | (have e_ := (Kd.S_reads' HO_6.out).1; omega) | simpa using h_) (seg := [.slice Ao20 y126.length co20]) (j := 0) (show 1 ≤ 1 from by decide) (x' := y126) (Kd.M_row (Kd.R_mono (Kd.R_tight rfl (Kd.R_mono (ok' := fun k_ => ((fun _ => True)) k_ ∧ k_ ≠ go15) (Kd.R_apart' (HO128.out) (Kd.S_typed HO_6.out) (by decide)) (fun k_ hk => ⟨trivial, fun e_ => (hk.2) (by rw [e_]; rfl)⟩))) (fun _ h_ => Or.inr (h_)))) (fun _ hk => hk) (fun k_ hk_ => ((Kd.R_mono (ok' := fun k_ => ((fun _ => True)) k_ ∧ k_ ≠ go15) (Kd.R_apart' (HO128.out) (Kd.S_typed HO_6.out) (by decide)) (fun k_ hk => ⟨trivial, fun e_ => (hk.2) (by rw [e_]; rfl)⟩))).1 k_ hk_.symm); have hx18_0 := hcc18 0 _ rfl; (try simp only [show ((Kd.slice 5 (Kd.int .u8))).sz = 1 from rfl, Nat.mul_one, Nat.add_zero] at hx18_0); have hf18_0 := hfr18 0; (try simp only [show ((Kd.slice 5 (Kd.int .u8))).sz = 1 from rfl, Nat.mul_one, Nat.add_zero] at hf18_0); (try clear hcl18); (try clear hcc18); (try clear hfr18); (try clear hM18); (try clear hoki18); (try clear hH18); (try simp only [show ((Kd.slice 5 (Kd.int .u8))).sz = 1 from rfl, Nat.mul_one, Nat.add_zero] at HP18)) | ((with_reducible refine gate_store (t := 22) (p := 25) rfl ?_); (try (rw [drewN_self w16]; generalize hq_ : World.drewN w16 _ = w16; have n0_ := Aside0.mk (Kd.S_at hq_ HO_6.out); have n1_ := Aside0.mk (below_at hq_ HB.out); clear hq_ HO_6 HB; have HO_6 := n0_; have HB := n1_; clear n0_ n1_; (try (obtain ⟨Ao20, co20, eo20⟩ := Kd.R_slice HO128.out)); (try (subst eo20)); (try (have n_ := Aside0.mk (Kd.S_mono (ok' := (fun k_ => some k_ ≠ (.slice Ao20 y126.length co20 : Value).ownBlock)) HO_6.out (fun k_ hk => hk.2)); clear HO_6; have HO_6 := n_; clear n_)); (try (have HX18 := Aside0.mk (show Kd.S (Kd.slice 5 (Kd.int .u8)) 22 w16 w.heap.size (fun k_ => ((fun _ => True)) k_ ∧ ¬ ((fun k_ => some k_ = (.slice Ao20 y126.length co20 : Value).ownBlock)) k_) (.slice (some ⟨go15, 0, none⟩) x6_1.length co9) x6_1 from (by (with_reducible repeat (first | apply Kd.S_alloc | apply Kd.S_drewN | apply Kd.S_drew)); exact Kd.S_mono HO_6.out (fun k_ hk => ⟨trivial, fun e_ => hk e_⟩))))); (try (obtain ⟨oki18, ce18, hcl18, hM18, hcc18, hfr18, hoki18, hH18⟩ := Kd.S_elem HX18.out [] (x18_1 : Int) dA (by have h_ : (x18_1 : Int) < ((x6_1.length : Int) : Int) := dA; first | exact h_ | (have e_ := (Kd.S_reads' HO_6.out).1; omega) | simpa using h_))); (try (obtain ⟨ve18_0, rfl, ge18_0⟩ := hM18)); (try (have HP18 := Kd.S_seg hH18 dA (by have h_ : (x18_1 : Int) < ((x6_1.length : Int) : Int) := dA; first | exact h_ | (have e_ := (Kd.S_reads' HO_6.out).1; omega) | simpa using h_) (seg := [.slice Ao20 y126.length co20]) (j := 0) (show 1 ≤ 1 from by decide) (x' := y126) (Kd.M_row (Kd.R_mono (Kd.R_tight rfl (Kd.R_mono (ok' := fun k_ => ((fun _ => True)) k_ ∧ k_ ≠ go15) (Kd.R_apart' (HO128.out) (Kd.S_typed HO_6.out) (by decide)) (fun k_ hk => ⟨trivial, fun e_ => (hk.2) (by rw [e_]; rfl)⟩))) (fun _ h_ => Or.inr (h_)))) (fun _ hk => hk) (fun k_ hk_ => ((Kd.R_mono (ok' := fun k_ => ((fun _ => True)) k_ ∧ k_ ≠ go15) (Kd.R_apart' (HO128.out) (Kd.S_typed HO_6.out) (by decide)) (fun k_ hk => ⟨trivial, fun e_ => (hk.2) (by rw [e_]; rfl)⟩))).1 k_ hk_.symm))); (try (have hx18_0 := hcc18 0 _ rfl)); (try (try simp only [show ((Kd.slice 5 (Kd.int .u8))).sz = 1 from rfl, Nat.mul_one, Nat.add_zero] at hx18_0)); (try (have hf18_0 := hfr18 0)); (try (try simp only [show ((Kd.slice 5 (Kd.int .u8))).sz = 1 from rfl, Nat.mul_one, Nat.add_zero] at hf18_0)); (try (try clear hcl18); (try clear hcc18); (try clear hfr18); (try clear hM18); (try clear hoki18); (try clear hH18)); (try (try simp only [show ((Kd.slice 5 (Kd.int .u8))).sz = 1 from rfl, Nat.mul_one, Nat.add_zero] at HP18)))); refine store_event (t := 22) (p := 25) (v := ?vo_w19) (w1 := (w16.setCell ⟨go15, (x18_1 : Int).toNat, none⟩ (.slice Ao20 y126.length co20))) ?hg ?ho ?hn ?hr ?_; (case ho => rfl); (case hg => rfl); (case hn => rfl); (case hr => first | (go_simp; done) | (go_simp; rfl)); intro w19 hw; have hg : w16.grownBy w19 (some go15) := (by rw [hw]; exact HP18.2); have hp_ : Kd.S (Kd.slice 5 (Kd.int .u8)) 22 w19 w.heap.size (fun _ => True) (.slice (some ⟨go15, 0, none⟩) x6_1.length co9) y129 := (by rw [hw, Ny129.out]; exact HP18.1); clear HP18; have n0_ := Aside0.mk (hp_); have n1_ := Aside0.mk ((by rw [hw]; exact below_set (HB.out) GB15.out : Below w.heap.size w w19)); clear HO_6; clear HB; clear HO128; have HO_6 := n0_; have HB := n1_; clear n0_ n1_; clear hg hw hp_)); try go_wp2_with (first | ((with_reducible refine gate_dst (N := 24) rfl ?_); refine Kd.R_make (Kd.int .u8) _ 5 rfl (N := 24) rfl 22 _ _ rfl a1 rfl rfl Tryd.underlying22 (.int .u8 0) 1 info5 rfl (by decide) (by omega) 0 (ok := fun _ => True) (okp := fun _ => True) rfl (fun _ hk => hk) trivial dA (Nat.le_trans (Nat.mul_le_mul_right _ (dA : a1.toNat ≤ 281474976710656)) (by omega)) (Below.refl _ _) (Nat.le_refl _) ?_; intro v127 w16 ho17 hb hg_ hnew_; clear hg_ hnew_; (first | rw [← Ny126.out] at ho17 | (simp only [Int.reduceToNat] at ho17; rw [← Ny126.out] at ho17)); have n0_ := Aside0.mk (Kd.S_elder' (by (with_reducible repeat (first | apply Kd.S_alloc | apply Kd.S_drewN | apply Kd.S_drew)); exact HO_6.out) (Kd.R_base ho17) hb); have n1_ := Aside0.mk (Kd.R_lower ho17 (below_size bB)); have n2_ := Aside0.mk (below_step bB hb); clear HO_6; clear HB; have HO_6 := n0_; have HO128 := n1_; have HB := n2_; clear n0_ n1_ n2_; clear hb ho17; have p15 : 0 ≤ (x18_1 : Int) := dA; have q15 : (x18_1 : Int) < ((x6_1.length : Int) : Int) := dA; obtain ⟨go15, co15, eo15, gb15, gl15, cl15, HG15⟩ := Kd.S_form HO_6.out (by omega); (first | cases eo15 | (injection eo15 with ea_ en_ ec_; (first | subst ea_ | (injection ea_ with ea_; subst ea_)); subst ec_; clear en_)); have GB15 := Aside0.mk gb15; have GG15 := Aside0.mk HG15; clear gb15 gl15 HG15; obtain ⟨_, ce15, hcl15, hM15, hcc15, hfr15, _, _⟩ := Kd.S_elem HO_6.out [] (x18_1 : Int) p15 q15; obtain ⟨ve15_0, rfl, ge15_0⟩ := hM15; have hx15_0 := hcc15 0 _ rfl; have hf15_0 := hfr15 0; (try simp only [show ((Kd.slice 5 (Kd.int .u8))).sz = 1 from rfl, Nat.mul_one, Nat.add_zero] at hx15_0); (try simp only [show ((Kd.slice 5 (Kd.int .u8))).sz = 1 from rfl, Nat.mul_one, Nat.add_zero] at hf15_0); (try clear hcl15); (try clear hcc15); (try clear hfr15); (try clear hM15); replace p15 := eq_true p15; replace q15 := eq_true q15; obtain ⟨Ao20, co20, eo20⟩ := Kd.R_slice HO128.out; subst eo20; have n_ := Aside0.mk (Kd.S_mono (ok' := (fun k_ => some k_ ≠ (.slice Ao20 y126.length co20 : Value).ownBlock)) HO_6.out (fun k_ hk => hk.2)); clear HO_6; have HO_6 := n_; clear n_; have HX18 := Aside0.mk (show Kd.S (Kd.slice 5 (Kd.int .u8)) 22 w16 w.heap.size (fun k_ => ((fun _ => True)) k_ ∧ ¬ ((fun k_ => some k_ = (.slice Ao20 y126.length co20 : Value).ownBlock)) k_) (.slice (some ⟨go15, 0, none⟩) x6_1.length co9) x6_1 from (by (with_reducible repeat (first | apply Kd.S_alloc | apply Kd.S_drewN | apply Kd.S_drew)); exact Kd.S_mono HO_6.out (fun k_ hk => ⟨trivial, fun e_ => hk e_⟩))); obtain ⟨oki18, ce18, hcl18, hM18, hcc18, hfr18, hoki18, hH18⟩ := Kd.S_elem HX18.out [] (x18_1 : Int) dA (by have h_ : (x18_1 : Int) < ((x6_1.length : Int) : Int) := dA; first | exact h_ | (have e_ := (Kd.S_reads' HO_6.out).1; omega) | simpa using h_); obtain ⟨ve18_0, rfl, ge18_0⟩ := hM18; have HP18 := Kd.S_seg hH18 dA (by have h_ : (x18_1 : Int) < ((x6_1.length : Int) : Int) := dA; first | exact h_ | (have e_ := (Kd.S_reads' HO_6.out).1; omega) | simpa using h_) (seg := [.slice Ao20 y126.length co20]) (j := 0) (show 1 ≤ 1 from by decide) (x' := y126) (Kd.M_row (Kd.R_mono (Kd.R_tight rfl (Kd.R_mono (ok' := fun k_ => ((fun _ => True)) k_ ∧ k_ ≠ go15) (Kd.R_apart' (HO128.out) (Kd.S_typed HO_6.out) (by decide)) (fun k_ hk => ⟨trivial, fun e_ => (hk.2) (by rw [e_]; rfl)⟩))) (fun _ h_ => Or.inr (h_)))) (fun _ hk => hk) (fun k_ hk_ => ((Kd.R_mono (ok' := fun k_ => ((fun _ => True)) k_ ∧ k_ ≠ go15) (Kd.R_apart' (HO128.out) (Kd.S_typed HO_6.out) (by decide)) (fun k_ hk => ⟨trivial, fun e_ => (hk.2) (by rw [e_]; rfl)⟩))).1 k_ hk_.symm); have hx18_0 := hcc18 0 _ rfl; (try simp only [show ((Kd.slice 5 (Kd.int .u8))).sz = 1 from rfl, Nat.mul_one, Nat.add_zero] at hx18_0); have hf18_0 := hfr18 0; (try simp only [show ((Kd.slice 5 (Kd.int .u8))).sz = 1 from rfl, Nat.mul_one, Nat.add_zero] at hf18_0); (try clear hcl18); (try clear hcc18); (try clear hfr18); (try clear hM18); (try clear hoki18); (try clear hH18); (try simp only [show ((Kd.slice 5 (Kd.int .u8))).sz = 1 from rfl, Nat.mul_one, Nat.add_zero] at HP18)) | ((with_reducible refine gate_store (t := 22) (p := 25) rfl ?_); (try (rw [drewN_self w16]; generalize hq_ : World.drewN w16 _ = w16; have n0_ := Aside0.mk (Kd.S_at hq_ HO_6.out); have n1_ := Aside0.mk (below_at hq_ HB.out); clear hq_ HO_6 HB; have HO_6 := n0_; have HB := n1_; clear n0_ n1_; (try (obtain ⟨Ao20, co20, eo20⟩ := Kd.R_slice HO128.out)); (try (subst eo20)); (try (have n_ := Aside0.mk (Kd.S_mono (ok' := (fun k_ => some k_ ≠ (.slice Ao20 y126.length co20 : Value).ownBlock)) HO_6.out (fun k_ hk => hk.2)); clear HO_6; have HO_6 := n_; clear n_)); (try (have HX18 := Aside0.mk (show Kd.S (Kd.slice 5 (Kd.int .u8)) 22 w16 w.heap.size (fun k_ => ((fun _ => True)) k_ ∧ ¬ ((fun k_ => some k_ = (.slice Ao20 y126.length co20 : Value).ownBlock)) k_) (.slice (some ⟨go15, 0, none⟩) x6_1.length co9) x6_1 from (by (with_reducible repeat (first | apply Kd.S_alloc | apply Kd.S_drewN | apply Kd.S_drew)); exact Kd.S_mono HO_6.out (fun k_ hk => ⟨trivial, fun e_ => hk e_⟩))))); (try (obtain ⟨oki18, ce18, hcl18, hM18, hcc18, hfr18, hoki18, hH18⟩ := Kd.S_elem HX18.out [] (x18_1 : Int) dA (by have h_ : (x18_1 : Int) < ((x6_1.length : Int) : Int) := dA; first | exact h_ | (have e_ := (Kd.S_reads' HO_6.out).1; omega) | simpa using h_))); (try (obtain ⟨ve18_0, rfl, ge18_0⟩ := hM18)); (try (have HP18 := Kd.S_seg hH18 dA (by have h_ : (x18_1 : Int) < ((x6_1.length : Int) : Int) := dA; first | exact h_ | (have e_ := (Kd.S_reads' HO_6.out).1; omega) | simpa using h_) (seg := [.slice Ao20 y126.length co20]) (j := 0) (show 1 ≤ 1 from by decide) (x' := y126) (Kd.M_row (Kd.R_mono (Kd.R_tight rfl (Kd.R_mono (ok' := fun k_ => ((fun _ => True)) k_ ∧ k_ ≠ go15) (Kd.R_apart' (HO128.out) (Kd.S_typed HO_6.out) (by decide)) (fun k_ hk => ⟨trivial, fun e_ => (hk.2) (by rw [e_]; rfl)⟩))) (fun _ h_ => Or.inr (h_)))) (fun _ hk => hk) (fun k_ hk_ => ((Kd.R_mono (ok' := fun k_ => ((fun _ => True)) k_ ∧ k_ ≠ go15) (Kd.R_apart' (HO128.out) (Kd.S_typed HO_6.out) (by decide)) (fun k_ hk => ⟨trivial, fun e_ => (hk.2) (by rw [e_]; rfl)⟩))).1 k_ hk_.symm))); (try (have hx18_0 := hcc18 0 _ rfl)); (try (try simp only [show ((Kd.slice 5 (Kd.int .u8))).sz = 1 from rfl, Nat.mul_one, Nat.add_zero] at hx18_0)); (try (have hf18_0 := hfr18 0)); (try (try simp only [show ((Kd.slice 5 (Kd.int .u8))).sz = 1 from rfl, Nat.mul_one, Nat.add_zero] at hf18_0)); (try (try clear hcl18); (try clear hcc18); (try clear hfr18); (try clear hM18); (try clear hoki18); (try clear hH18)); (try (try simp only [show ((Kd.slice 5 (Kd.int .u8))).sz = 1 from rfl, Nat.mul_one, Nat.add_zero] at HP18)))); refine store_event (t := 22) (p := 25) (v := ?vo_w19) (w1 := (w16.setCell ⟨go15, (x18_1 : Int).toNat, none⟩ (.slice Ao20 y126.length co20))) ?hg ?ho ?hn ?hr ?_; (case ho => rfl); (case hg => rfl); (case hn => rfl); (case hr => first | (go_simp; done) | (go_simp; rfl)); intro w19 hw; have hg : w16.grownBy w19 (some go15) := (by rw [hw]; exact HP18.2); have hp_ : Kd.S (Kd.slice 5 (Kd.int .u8)) 22 w19 w.heap.size (fun _ => True) (.slice (some ⟨go15, 0, none⟩) x6_1.length co9) y129 := (by rw [hw, Ny129.out]; exact HP18.1); clear HP18; have n0_ := Aside0.mk (hp_); have n1_ := Aside0.mk ((by rw [hw]; exact below_set (HB.out) GB15.out : Below w.heap.size w w19)); clear HO_6; clear HB; clear HO128; have HO_6 := n0_; have HB := n1_; clear n0_ n1_; clear hg hw hp_)))
            (try simp only [← hl6_1])
            go_roundg k1
            case measure => have := HK1.out; omega
            case rel => exact ⟨(y129), (wrap64 (x18_1 + 1)), (by first | rfl | (simp; done) | (simp [*]; done)), H', ⟨by have := HK1.out; omega⟩, ⟨by (try simp only [hl6_1]); (with_reducible repeat (first | apply Kd.S_alloc | apply Kd.S_drewN | apply Kd.S_drew)); exact HO_6.out⟩, ⟨bB⟩⟩
           ·rw [if_neg c14] at H
            exact absurd H (by simp)
          ·rw [if_neg c13] at H
           exact absurd H (by simp)
         ·rw [if_neg c12] at H
          exact absurd H (by simp)
        ·rw [if_neg c11] at H
         exact absurd H (by simp)
       ·rw [if_neg c10] at H
        have c10b0 : decide (x18_1 < (y123.length : Int)) = false := decide_eq_false c10
        (try (have c10b0hl6_1 := c10b0; rw [hl6_1] at c10b0hl6_1))
        clear c10
        simp only [Option.some.injEq, Prod.mk.injEq] at H
        obtain ⟨rfl, rfl⟩ := H
        go_wp2
        repeat (go_quiet (fail); try go_wp2)
        go_ret2
        exact ⟨(fun _ => 0), (fun _ => .nilIface), _, by first | rfl | (simp [errW_none, errW_some] <;> rfl) | (simp [*, errW_none, errW_some] <;> rfl), by (with_reducible repeat (first | apply Kd.S_alloc | apply Kd.S_drewN | apply Kd.S_drew)); exact HO_6.out, bB⟩
    ·rw [if_neg c6] at H
     exact absurd H (by simp)
   ·rw [if_neg c5] at H
    exact absurd H (by simp)


/-! ### errors_New: function 59 -/
def errors_New.f (a0 : ByteArray) : Option (Option Int) := some (some 0)
theorem errors_New.calls (a0 : ByteArray) (r : Option Int) (w : World) (h : errors_New.f a0 = some r) :
  Calls Tryd.prog 59 #[.string a0] w fun e w' => ∃ (T_ : Int → TypeId) (X_ : Int → Value), e = .returned (errW T_ X_ r) ∧ Below w.heap.size w w' := by
 injection h with h
 subst h
 go_enter Tryd.func59, Tryd.ntmps59
 go_wp2
 go_ret
 exact ⟨fun _ => 93, fun _ => .pointer (some ⟨w.heap.size, 0, none⟩), rfl, (Below.refl _ _).alloc (Nat.le_refl _) _⟩


/-! ### reedsolomon_matrix_Multiply: function 51 -/
mutual
def reedsolomon_matrix_Multiply.l0 : Nat → List (List Int) → List (List Int) → List (List Int) → Int → Int → Option ((List (List Int)) × Option Int)
 | 0, _, _, _, _, _ => none
 | k + 1, x0, x1, x6, x32, x33 => if x33 < x32 then (if 0 ≤ x33 then (if x33 < (x6.length : Int) then (reedsolomon_matrix_Multiply.l1 k x0 x1 x6 x33 x32 x33 ((rd_L1 x6 x33).length : Int) 0) else (none)) else (none)) else (some (x6, none))
def reedsolomon_matrix_Multiply.l1 : Nat → List (List Int) → List (List Int) → List (List Int) → Int → Int → Int → Int → Int → Option ((List (List Int)) × Option Int)
 | 0, _, _, _, _, _, _, _, _ => none
 | k + 1, x0, x1, x6, x8, x32, x33, x39, x40 => if x40 < x39 then (if 0 < (x0.length : Int) then (reedsolomon_matrix_Multiply.l2 k x0 x1 x6 x8 x40 0 x32 x33 x39 x40 ((rd_L1 x0 0).length : Int) 0) else (none)) else (reedsolomon_matrix_Multiply.l0 k x0 x1 x6 x32 (wrap64 (x33 + 1)))
def reedsolomon_matrix_Multiply.l2 : Nat → List (List Int) → List (List Int) → List (List Int) → Int → Int → Int → Int → Int → Int → Int → Int → Int → Option ((List (List Int)) × Option Int)
 | 0, _, _, _, _, _, _, _, _, _, _, _, _ => none
 | k + 1, x0, x1, x6, x8, x10, x11, x32, x33, x39, x40, x46, x47 => if x47 < x46 then (if 0 ≤ x8 then (if x8 < (x0.length : Int) then (if 0 ≤ x47 then (if x47 < ((rd_L1 x0 x8).length : Int) then (if x47 < (x1.length : Int) then (if 0 ≤ x10 then (if x10 < ((rd_L1 x1 x47).length : Int) then ((reedsolomon_galMultiply.f (rd (rd_L1 x0 x8) x47) (rd (rd_L1 x1 x47) x10)).bind fun t143 => (reedsolomon_matrix_Multiply.l2 k x0 x1 x6 x8 x10 (Go.bits .xor .u8 x11 t143) x32 x33 x39 x40 x46 (wrap64 (x47 + 1)))) else (none)) else (none)) else (none)) else (none)) else (none)) else (none)) else (none)) else (if 0 ≤ x8 then (if x8 < (x6.length : Int) then (if 0 ≤ x10 then (if x10 < ((rd_L1 x6 x8).length : Int) then (reedsolomon_matrix_Multiply.l1 k x0 x1 (x6.set (x8 : Int).toNat ((rd_L1 x6 x8).set (x10 : Int).toNat x11)) x8 x32 x33 x39 (wrap64 (x40 + 1))) else (none)) else (none)) else (none)) else (none))
end
def reedsolomon_matrix_Multiply.f (k : Nat) (l0 : List (List Int)) (l1 : List (List Int)) : Option ((List (List Int)) × Option Int) := if 0 < (l0.length : Int) then (if ((rd_L1 l0 0).length : Int) = (l1.length : Int) then (if 0 < (l1.length : Int) then ((reedsolomon_newMatrix.f k (l0.length : Int) ((rd_L1 l1 0).length : Int)).bind fun bt133 => (reedsolomon_matrix_Multiply.l0 k l0 l1 bt133.1 (bt133.1.length : Int) 0)) else (none)) else ((errors_New.f (⟨#[99, 111, 108, 117, 109, 110, 115, 32, 111, 110, 32, 108, 101, 102, 116, 32, 32, 105, 115, 32, 100, 105, 102, 102, 101, 114, 101, 110, 116, 32, 116, 104, 97, 110, 32, 114, 111, 119, 115, 32, 111, 110, 32, 114, 105, 103, 104, 116, 32]⟩ : ByteArray)).bind fun t131 => (some (([] : List (List Int)), t131)))) else (none)
theorem reedsolomon_matrix_Multiply.mono_l : ∀ k, (∀ y0 y1 y2 y3 y4, LeO (reedsolomon_matrix_Multiply.l0 k y0 y1 y2 y3 y4) (reedsolomon_matrix_Multiply.l0 (k + 1) y0 y1 y2 y3 y4)) ∧ (∀ y0 y1 y2 y3 y4 y5 y6 y7, LeO (reedsolomon_matrix_Multiply.l1 k y0 y1 y2 y3 y4 y5 y6 y7) (reedsolomon_matrix_Multiply.l1 (k + 1) y0 y1 y2 y3 y4 y5 y6 y7)) ∧ (∀ y0 y1 y2 y3 y4 y5 y6 y7 y8 y9 y10 y11, LeO (reedsolomon_matrix_Multiply.l2 k y0 y1 y2 y3 y4 y5 y6 y7 y8 y9 y10 y11) (reedsolomon_matrix_Multiply.l2 (k + 1) y0 y1 y2 y3 y4 y5 y6 y7 y8 y9 y10 y11))
 | 0 => ⟨fun _ _ _ _ _ r h => by simp [reedsolomon_matrix_Multiply.l0] at h, fun _ _ _ _ _ _ _ _ r h => by simp [reedsolomon_matrix_Multiply.l1] at h, fun _ _ _ _ _ _ _ _ _ _ _ _ r h => by simp [reedsolomon_matrix_Multiply.l2] at h⟩
 | k + 1 => by
  obtain ⟨ih0, ih1, ih2⟩ := reedsolomon_matrix_Multiply.mono_l k
  refine ⟨?_, ?_, ?_⟩
  ·intro y0 y1 y2 y3 y4
   unfold reedsolomon_matrix_Multiply.l0
   repeat' first
   | (with_reducible exact ih0 _ _ _ _ _)
   | (with_reducible exact ih1 _ _ _ _ _ _ _ _)
   | (with_reducible exact ih2 _ _ _ _ _ _ _ _ _ _ _ _)
   | (with_reducible exact reedsolomon_newMatrix.mono _ _ _)
   | (with_reducible exact LeO.refl _)
   | (with_reducible exact LeO.none _)
   | (with_reducible refine LeO.ite ?_ ?_)
   | (with_reducible refine LeO.bind ?_ (fun _ => ?_))
   | exact ih0 _ _ _ _ _
   | exact ih1 _ _ _ _ _ _ _ _
   | exact ih2 _ _ _ _ _ _ _ _ _ _ _ _
   | exact reedsolomon_newMatrix.mono _ _ _
   | exact LeO.none _
   | refine LeO.ite ?_ ?_
   | refine LeO.bind ?_ (fun _ => ?_)
  ·intro y0 y1 y2 y3 y4 y5 y6 y7
   unfold reedsolomon_matrix_Multiply.l1
   repeat' first
   | (with_reducible exact ih0 _ _ _ _ _)
   | (with_reducible exact ih1 _ _ _ _ _ _ _ _)
   | (with_reducible exact ih2 _ _ _ _ _ _ _ _ _ _ _ _)
   | (with_reducible exact reedsolomon_newMatrix.mono _ _ _)
   | (with_reducible exact LeO.refl _)
   | (with_reducible exact LeO.none _)
   | (with_reducible refine LeO.ite ?_ ?_)
   | (with_reducible refine LeO.bind ?_ (fun _ => ?_))
   | exact ih0 _ _ _ _ _
   | exact ih1 _ _ _ _ _ _ _ _
   | exact ih2 _ _ _ _ _ _ _ _ _ _ _ _
   | exact reedsolomon_newMatrix.mono _ _ _
   | exact LeO.none _
   | refine LeO.ite ?_ ?_
   | refine LeO.bind ?_ (fun _ => ?_)
  ·intro y0 y1 y2 y3 y4 y5 y6 y7 y8 y9 y10 y11
   unfold reedsolomon_matrix_Multiply.l2
   repeat' first
   | (with_reducible exact ih0 _ _ _ _ _)
   | (with_reducible exact ih1 _ _ _ _ _ _ _ _)
   | (with_reducible exact ih2 _ _ _ _ _ _ _ _ _ _ _ _)
   | (with_reducible exact reedsolomon_newMatrix.mono _ _ _)
   | (with_reducible exact LeO.refl _)
   | (with_reducible exact LeO.none _)
   | (with_reducible refine LeO.ite ?_ ?_)
   | (with_reducible refine LeO.bind ?_ (fun _ => ?_))
   | exact ih0 _ _ _ _ _
   | exact ih1 _ _ _ _ _ _ _ _
   | exact ih2 _ _ _ _ _ _ _ _ _ _ _ _
   | exact reedsolomon_newMatrix.mono _ _ _
   | exact LeO.none _
   | refine LeO.ite ?_ ?_
   | refine LeO.bind ?_ (fun _ => ?_)
theorem reedsolomon_matrix_Multiply.mono : ∀ a0 a1 k, LeO (reedsolomon_matrix_Multiply.f k a0 a1) (reedsolomon_matrix_Multiply.f (k + 1) a0 a1) := by
 intro a0 a1 k
 obtain ⟨ih0, ih1, ih2⟩ := reedsolomon_matrix_Multiply.mono_l k
 unfold reedsolomon_matrix_Multiply.f
 repeat' first
   | (with_reducible exact ih0 _ _ _ _ _)
   | (with_reducible exact ih1 _ _ _ _ _ _ _ _)
   | (with_reducible exact ih2 _ _ _ _ _ _ _ _ _ _ _ _)
   | (with_reducible exact reedsolomon_newMatrix.mono _ _ _)
   | (with_reducible exact LeO.refl _)
   | (with_reducible exact LeO.none _)
   | (with_reducible refine LeO.ite ?_ ?_)
   | (with_reducible refine LeO.bind ?_ (fun _ => ?_))
   | exact ih0 _ _ _ _ _
   | exact ih1 _ _ _ _ _ _ _ _
   | exact ih2 _ _ _ _ _ _ _ _ _ _ _ _
   | exact reedsolomon_newMatrix.mono _ _ _
   | exact LeO.none _
   | refine LeO.ite ?_ ?_
   | refine LeO.bind ?_ (fun _ => ?_)
set_option maxHeartbeats 8000000 in
set_option maxRecDepth 100000 in
theorem reedsolomon_matrix_Multiply.calls (k : Nat) (A0 : Option Addr) (c0 : Nat) (l0 : List (List Int)) (A1 : Option Addr) (c1 : Nat) (l1 : List (List Int)) (r1 : List (List Int)) (r2 : Option Int) (w : World) (hT : TabOK w) (hr0 : Kd.C (Kd.slice 5 (Kd.int .u8)) w A0 l0.length l0) (hc0 : l0.length ≤ c0) (hr1 : Kd.C (Kd.slice 5 (Kd.int .u8)) w A1 l1.length l1) (hc1 : l1.length ≤ c1) (h : reedsolomon_matrix_Multiply.f k l0 l1 = some (r1, r2)) :
  Calls Tryd.prog 51 #[.slice A0 l0.length c0, .slice A1 l1.length c1] w fun e w' => ∃ (T_ : Int → TypeId) (X_ : Int → Value), ∃ v0_ : Value, e = .returned (.tuple #[v0_, errW T_ X_ r2]) ∧ Kd.S (Kd.slice 5 (Kd.int .u8)) 22 w' w.heap.size (fun _ => True) v0_ r1 ∧ Below w.heap.size w w' := by
 have HT := Aside0.mk hT
 clear hT
 have HR0 := Aside0.mk hr0
 have HC0 := Aside0.mk hc0
 clear hr0 hc0
 have HR1 := Aside0.mk hr1
 have HC1 := Aside0.mk hc1
 clear hr1 hc1
 have HB := Aside0.mk (Below.refl w.heap.size w)
 have H : (if 0 < (l0.length : Int) then (if ((rd_L1 l0 0).length : Int) = (l1.length : Int) then (if 0 < (l1.length : Int) then ((reedsolomon_newMatrix.f k (l0.length : Int) ((rd_L1 l1 0).length : Int)).bind fun bt133 => (reedsolomon_matrix_Multiply.l0 k l0 l1 bt133.1 (bt133.1.length : Int) 0)) else (none)) else ((errors_New.f (⟨#[99, 111, 108, 117, 109, 110, 115, 32, 111, 110, 32, 108, 101, 102, 116, 32, 32, 105, 115, 32, 100, 105, 102, 102, 101, 114, 101, 110, 116, 32, 116, 104, 97, 110, 32, 114, 111, 119, 115, 32, 111, 110, 32, 114, 105, 103, 104, 116, 32]⟩ : ByteArray)).bind fun t131 => (some (([] : List (List Int)), t131)))) else (none)) = some (r1, r2) := h
 clear h
 by_cases c3 : 0 < (l0.length : Int)
 ·rw [if_pos c3] at H
  have c3b0 : decide (0 < (l0.length : Int)) = true := decide_eq_true c3
  have c3b1 : decide (0 < l0.length) = true := decide_eq_true (by omega)
  clear c3
  by_cases c4 : ((rd_L1 l0 0).length : Int) = (l1.length : Int)
  ·rw [if_pos c4] at H
   have c4b0 : (((rd_L1 l0 0).length : Int) == (l1.length : Int)) = true := beq_iff_eq.mpr c4
   have c4b1 : (((rd_L1 l0 0).length : Int) != (l1.length : Int)) = false := bne_eq_false_iff_eq.mpr c4
   have c4b2 : ((rd_L1 l0 0).length == l1.length) = true := by first | simpa using c4 | (simp at c4 ⊢; omega)
   clear c4
   by_cases c5 : 0 < (l1.length : Int)
   ·rw [if_pos c5] at H
    have c5b0 : decide (0 < (l1.length : Int)) = true := decide_eq_true c5
    have c5b1 : decide (0 < l1.length) = true := decide_eq_true (by omega)
    clear c5
    replace H := Option.bind_eq_some_iff.mp H
    obtain ⟨⟨t133, t134⟩, A60, H⟩ := H
    replace H : (reedsolomon_matrix_Multiply.l0 k l0 l1 t133 (t133.length : Int) 0) = some (r1, r2) := H
    have A6 := Aside0.mk A60
    clear A60
    have H' := Aside0.mk H
    clear H
    have p130 : 0 ≤ (0 : Int) := (by omega)
    have q130 : 0 < (l0.length : Int) := dA
    obtain ⟨ad130, A130_0, c130_0, e130, hx130_0, hl130_0, hi130_0⟩ := at_L1 HR0.out 0 p130 q130
    cases e130
    have qi130 : (0 < l0.length) = True := eq_true (by omega)
    (try rw [show ((0 : Int)).toNat = 0 from rfl] at hx130_0)
    (try rw [Addr.add_zero'] at hx130_0)
    have HR130_0 := Aside0.mk hi130_0
    have HC130_0 := Aside0.mk hl130_0
    clear hi130_0 hl130_0
    replace p130 := eq_true p130
    replace q130 := eq_true q130
    have p132 : 0 ≤ (0 : Int) := (by omega)
    have q132 : 0 < (l1.length : Int) := dA
    obtain ⟨ad132, A132_0, c132_0, e132, hx132_0, hl132_0, hi132_0⟩ := at_L1 HR1.out 0 p132 q132
    cases e132
    have qi132 : (0 < l1.length) = True := eq_true (by omega)
    (try rw [show ((0 : Int)).toNat = 0 from rfl] at hx132_0)
    (try rw [Addr.add_zero'] at hx132_0)
    have HR132_0 := Aside0.mk hi132_0
    have HC132_0 := Aside0.mk hl132_0
    clear hi132_0 hl132_0
    replace p132 := eq_true p132
    replace q132 := eq_true q132
    go_enter Tryd.func51, Tryd.ntmps51
    go_wp2_with (first | (go_at_call 57; (with_reducible refine (reedsolomon_newMatrix.calls k (l0.length : Int) ((rd_L1 l1 0).length : Int) t133 t134 _ ?side1 A6.out).mono ?_); (case side1 => exact TabOK.below HT.out bB); rintro e w7 ⟨Tt134, Xt134, v135, rfl, ho0, hb⟩; have n0_ := Aside0.mk (Kd.S_lower ho0 (below_size bB)); have n1_ := Aside0.mk (below_step bB hb); clear HB; have HO136 := n0_; have HB := n1_; clear n0_ n1_; (try clear hb); (try clear hb2); (try clear hk); (try clear hi); (try clear ho0); (try simp only [errW_none, errW_some]); obtain ⟨Ao8, co8, eo8⟩ := Kd.S_slice HO136.out; subst eo8))
    repeat (go_quiet (first | (go_at_call 57; (with_reducible refine (reedsolomon_newMatrix.calls k (l0.length : Int) ((rd_L1 l1 0).length : Int) t133 t134 _ ?side1 A6.out).mono ?_); (case side1 => exact TabOK.below HT.out bB); rintro e w7 ⟨Tt134, Xt134, v135, rfl, ho0, hb⟩; have n0_ := Aside0.mk (Kd.S_lower ho0 (below_size bB)); have n1_ := Aside0.mk (below_step bB hb); clear HB; have HO136 := n0_; have HB := n1_; clear n0_ n1_; (try clear hb); (try clear hb2); (try clear hk); (try clear hi); (try clear ho0); (try simp only [errW_none, errW_some]); obtain ⟨Ao8, co8, eo8⟩ := Kd.S_slice HO136.out; subst eo8)); try go_wp2_with (first | (go_at_call 57; (with_reducible refine (reedsolomon_newMatrix.calls k (l0.length : Int) ((rd_L1 l1 0).length : Int) t133 t134 _ ?side1 A6.out).mono ?_); (case side1 => exact TabOK.below HT.out bB); rintro e w7 ⟨Tt134, Xt134, v135, rfl, ho0, hb⟩; have n0_ := Aside0.mk (Kd.S_lower ho0 (below_size bB)); have n1_ := Aside0.mk (below_step bB hb); clear HB; have HO136 := n0_; have HB := n1_; clear n0_ n1_; (try clear hb); (try clear hb2); (try clear hk); (try clear hi); (try clear ho0); (try simp only [errW_none, errW_some]); obtain ⟨Ao8, co8, eo8⟩ := Kd.S_slice HO136.out; subst eo8)))
    go_loopg [33] k (fun kq v33 w' => ∃ (x6_1 : List (List Int)) (x33_1 : Int), v33 = .int .i64 x33_1 ∧ Aside0 (reedsolomon_matrix_Multiply.l0 kq l0 l1 x6_1 (t133.length : Int) x33_1 = some (r1, r2)) ∧ Aside0 (kq ≤ k) ∧ Aside0 (Kd.S (Kd.slice 5 (Kd.int .u8)) 22 w' w.heap.size (fun _ => True) (.slice Ao8 t133.length co8) x6_1) ∧ Aside0 (Below w.heap.size w w'))
    case atStart => exact ⟨(t133), (0), (by first | rfl | (simp; done) | (simp [*]; done)), H', ⟨Nat.le_refl _⟩, ⟨by (with_reducible repeat (first | apply Kd.S_alloc | apply Kd.S_drewN | apply Kd.S_drew)); exact HO136.out⟩, ⟨bB⟩⟩
    case round =>
     clear H'
     try clear c1
     try clear p1
     try clear q1
     try clear hx1
     try clear qi1
     try clear p2
     try clear c3
     try clear c3b0
     try clear c3b1
     try clear c4
     try clear c4b0
     try clear c4b1
     try clear c4b2
     try clear c5
     try clear c5b0
     try clear c5b1
     try clear hx130_0
     try clear hx132_0
     try clear p130
     try clear p132
     try clear q130
     try clear q132
     obtain ⟨x6_1, x33_1, rfl, HA, HK1, HO_6, HB⟩ := hrel
     have hl6_1 := (Kd.S_reads' HO_6.out).1
     rw [hl6_1] at HO_6
     (try simp only [hl6_1])
     cases gk with
     | zero => exact absurd HA.out (by simp [reedsolomon_matrix_Multiply.l0])
     | succ k1 =>
      have H := HA.out
      clear HA
      simp only [reedsolomon_matrix_Multiply.l0] at H
      by_cases c9 : x33_1 < (t133.length : Int)
      ·rw [if_pos c9] at H
       have c9b0 : decide (x33_1 < (t133.length : Int)) = true := decide_eq_true c9
       (try (have c9b0hl6_1 := c9b0; rw [hl6_1] at c9b0hl6_1))
       clear c9
       by_cases c10 : 0 ≤ x33_1
       ·rw [if_pos c10] at H
        have c10b0 : decide (0 ≤ x33_1) = true := decide_eq_true c10
        clear c10
        by_cases c11 : x33_1 < (x6_1.length : Int)
        ·rw [if_pos c11] at H
         have c11b0 : decide (x33_1 < (x6_1.length : Int)) = true := decide_eq_true c11
         (try (have c11b0hl6_1 := c11b0; rw [hl6_1] at c11b0hl6_1))
         clear c11
         have H' := Aside0.mk H
         clear H
         have p137 : 0 ≤ (x33_1 : Int) := dA
         have q137 : x33_1 < (x6_1.length : Int) := dA
         obtain ⟨ad137, A137_0, c137_0, e137, hx137_0, hl137_0, hi137_0⟩ := at_L1 (Kd.S_reads' HO_6.out).2.2 x33_1 p137 q137
         cases e137
         obtain ⟨ce137, hce137, hMe137, hcc137⟩ := Kd.S_get HO_6.out [] x33_1 p137 (by first | exact q137 | exact dA | (have e_ := (Kd.S_reads' HO_6.out).1; omega))
         obtain ⟨ve137_0, rfl, ge137_0⟩ := hMe137
         have hv137_0 := hcc137 0 _ rfl
         rw [Nat.add_zero, show ((Kd.slice 5 (Kd.int .u8))).sz = 1 from rfl, Nat.mul_one] at hv137_0
         replace hv137_0 := Option.some.inj (hv137_0.symm.trans hx137_0)
         rw [hv137_0] at ge137_0
         have HL137_0 := Aside0.mk (show Kd.R (Kd.int .u8) 5 _ _ _ _ (rd_L1 x6_1 x33_1) from ge137_0)
         clear hv137_0 ge137_0
         have HX137_0 := Aside0.mk hx137_0
         clear hcc137 hce137
         have HR137_0 := Aside0.mk hi137_0
         have HC137_0 := Aside0.mk hl137_0
         clear hi137_0 hl137_0
         replace p137 := eq_true p137
         replace q137 := eq_true q137
         go_wp2
         repeat (go_quiet (fail); try go_wp2)
         go_loopg [40] k1 (fun kq v40 w' => ∃ (x6_2 : List (List Int)) (x40_2 : Int), v40 = .int .i64 x40_2 ∧ Aside0 (reedsolomon_matrix_Multiply.l1 kq l0 l1 x6_2 x33_1 (t133.length : Int) x33_1 ((rd_L1 x6_1 x33_1).length : Int) x40_2 = some (r1, r2)) ∧ Aside0 (kq ≤ k1) ∧ Aside0 (Kd.S (Kd.slice 5 (Kd.int .u8)) 22 w' w.heap.size (fun _ => True) (.slice (some ad137) x6_1.length co8) x6_2) ∧ Aside0 (Below w.heap.size w w'))
         case atStart => exact ⟨(x6_1), (0), (by first | rfl | (simp; done) | (simp [*]; done)), H', ⟨Nat.le_refl _⟩, ⟨by (try simp only [hl6_1]); (with_reducible repeat (first | apply Kd.S_alloc | apply Kd.S_drewN | apply Kd.S_drew)); exact HO_6.out⟩, ⟨bB⟩⟩
         case round =>
          clear H'
          try clear c1
          try clear p1
          try clear q1
          try clear hx1
          try clear qi1
          try clear p2
          try clear c3
          try clear c3b0
          try clear c3b1
          try clear c4
          try clear c4b0
          try clear c4b1
          try clear c4b2
          try clear c5
          try clear c5b0
          try clear c5b1
          try clear c9
          try clear c9b0
          try clear c10
          try clear c10b0
          try clear c11
          try clear c11b0
          try clear hx130_0
          try clear hx132_0
          try clear hx137_0
          try clear p1
          try clear p130
          try clear p132
          try clear p137
          try clear p2
          try clear q1
          try clear q130
          try clear q132
          try clear q137
          obtain ⟨x6_2, x40_2, rfl, HA, HK2, HO_6, HB⟩ := hrel
          have hl6_2 := (Kd.S_reads' HO_6.out).1
          rw [hl6_2] at HO_6
          (try simp only [hl6_2])
          cases gk with
          | zero => exact absurd HA.out (by simp [reedsolomon_matrix_Multiply.l1])
          | succ k2 =>
           have H := HA.out
           clear HA
           simp only [reedsolomon_matrix_Multiply.l1] at H
           by_cases c12 : x40_2 < ((rd_L1 x6_1 x33_1).length : Int)
           ·rw [if_pos c12] at H
            have c12b0 : decide (x40_2 < ((rd_L1 x6_1 x33_1).length : Int)) = true := decide_eq_true c12
            (try (have c12b0hl6_1 := c12b0; rw [hl6_1] at c12b0hl6_1))
            (try (have c12b0hl6_2 := c12b0; simp only [hl6_1, hl6_2] at c12b0hl6_2))
            clear c12
            by_cases c13 : 0 < (l0.length : Int)
            ·rw [if_pos c13] at H
             have c13b0 : decide (0 < (l0.length : Int)) = true := decide_eq_true c13
             have c13b1 : decide (0 < l0.length) = true := decide_eq_true (by omega)
             (try (have c13b0hl6_1 := c13b0; rw [hl6_1] at c13b0hl6_1))
             (try (have c13b0hl6_2 := c13b0; simp only [hl6_1, hl6_2] at c13b0hl6_2))
             clear c13
             have H' := Aside0.mk H
             clear H
             have p138 : 0 ≤ (0 : Int) := (by omega)
             have q138 : 0 < (l0.length : Int) := dA
             obtain ⟨ad138, A138_0, c138_0, e138, hx138_0, hl138_0, hi138_0⟩ := at_L1 HR0.out 0 p138 q138
             obtain rfl : ad130 = ad138 := (by injection e138)
             have qi138 : (0 < l0.length) = True := eq_true (by omega)
             (try rw [show ((0 : Int)).toNat = 0 from rfl] at hx138_0)
             (try rw [Addr.add_zero'] at hx138_0)
             replace hx138_0 := (HB.out.cell (World.block_lt_of_cell? w _ hx138_0)).trans hx138_0
             have HR138_0 := Aside0.mk hi138_0
             have HC138_0 := Aside0.mk hl138_0
             clear hi138_0 hl138_0
             replace p138 := eq_true p138
             replace q138 := eq_true q138
             go_wp2
             repeat (go_quiet (fail); try go_wp2)
             go_loopg [11, 47] k2 (fun kq v11 v47 w' => ∃ (x11_3 : Int) (x47_3 : Int), v11 = .int .u8 x11_3 ∧ v47 = .int .i64 x47_3 ∧ Aside0 (reedsolomon_matrix_Multiply.l2 kq l0 l1 x6_2 x33_1 x40_2 x11_3 (t133.length : Int) x33_1 ((rd_L1 x6_1 x33_1).length : Int) x40_2 ((rd_L1 l0 0).length : Int) x47_3 = some (r1, r2)) ∧ Aside0 (kq ≤ k2) ∧ Aside0 (Kd.S (Kd.slice 5 (Kd.int .u8)) 22 w' w.heap.size (fun _ => True) (.slice (some ad137) x6_2.length co8) x6_2) ∧ Aside0 (Below w.heap.size w w'))
             case atStart => exact ⟨(0), (0), (by first | rfl | (simp; done) | (simp [*]; done)), (by first | rfl | (simp; done) | (simp [*]; done)), H', ⟨Nat.le_refl _⟩, ⟨by (try simp only [hl6_1]); (try simp only [hl6_2]); (with_reducible repeat (first | apply Kd.S_alloc | apply Kd.S_drewN | apply Kd.S_drew)); exact HO_6.out⟩, ⟨bB⟩⟩
             case round =>
              clear H'
              try clear c1
              try clear p1
              try clear q1
              try clear hx1
              try clear qi1
              try clear p2
              try clear c3
              try clear c3b0
              try clear c3b1
              try clear c4
              try clear c4b0
              try clear c4b1
              try clear c4b2
              try clear c5
              try clear c5b0
              try clear c5b1
              try clear c9
              try clear c9b0
              try clear c10
              try clear c10b0
              try clear c11
              try clear c11b0
              try clear c12
              try clear c12b0
              try clear c13
              try clear c13b0
              try clear c13b1
              try clear p13
              try clear q13
              try clear hx13
              try clear qi13
              try clear hx130_0
              try clear hx132_0
              try clear hx137_0
              try clear hx138_0
              try clear p1
              try clear p130
              try clear p132
              try clear p137
              try clear p138
              try clear p2
              try clear q1
              try clear q130
              try clear q132
              try clear q137
              try clear q138
              obtain ⟨x11_3, x47_3, rfl, rfl, HA, HK3, HO_6, HB⟩ := hrel
              cases gk with
              | zero => exact absurd HA.out (by simp [reedsolomon_matrix_Multiply.l2])
              | succ k3 =>
               have H := HA.out
               clear HA
               simp only [reedsolomon_matrix_Multiply.l2] at H
               by_cases c14 : x47_3 < ((rd_L1 l0 0).length : Int)
               ·rw [if_pos c14] at H
                have c14b0 : decide (x47_3 < ((rd_L1 l0 0).length : Int)) = true := decide_eq_true c14
                (try (have c14b0hl6_1 := c14b0; rw [hl6_1] at c14b0hl6_1))
                (try (have c14b0hl6_2 := c14b0; simp only [hl6_1, hl6_2] at c14b0hl6_2))
                clear c14
                by_cases c15 : 0 ≤ x33_1
                ·rw [if_pos c15] at H
                 have c15b0 : decide (0 ≤ x33_1) = true := decide_eq_true c15
                 clear c15
                 by_cases c16 : x33_1 < (l0.length : Int)
                 ·rw [if_pos c16] at H
                  have c16b0 : decide (x33_1 < (l0.length : Int)) = true := decide_eq_true c16
                  (try (have c16b0hl6_1 := c16b0; rw [hl6_1] at c16b0hl6_1))
                  (try (have c16b0hl6_2 := c16b0; simp only [hl6_1, hl6_2] at c16b0hl6_2))
                  clear c16
                  by_cases c17 : 0 ≤ x47_3
                  ·rw [if_pos c17] at H
                   have c17b0 : decide (0 ≤ x47_3) = true := decide_eq_true c17
                   clear c17
                   by_cases c18 : x47_3 < ((rd_L1 l0 x33_1).length : Int)
                   ·rw [if_pos c18] at H
                    have c18b0 : decide (x47_3 < ((rd_L1 l0 x33_1).length : Int)) = true := decide_eq_true c18
                    (try (have c18b0hl6_1 := c18b0; rw [hl6_1] at c18b0hl6_1))
                    (try (have c18b0hl6_2 := c18b0; simp only [hl6_1, hl6_2] at c18b0hl6_2))
                    clear c18
                    by_cases c19 : x47_3 < (l1.length : Int)
                    ·rw [if_pos c19] at H
                     have c19b0 : decide (x47_3 < (l1.length : Int)) = true := decide_eq_true c19
                     (try (have c19b0hl6_1 := c19b0; rw [hl6_1] at c19b0hl6_1))
                     (try (have c19b0hl6_2 := c19b0; simp only [hl6_1, hl6_2] at c19b0hl6_2))
                     clear c19
                     by_cases c20 : 0 ≤ x40_2
                     ·rw [if_pos c20] at H
                      have c20b0 : decide (0 ≤ x40_2) = true := decide_eq_true c20
                      clear c20
                      by_cases c21 : x40_2 < ((rd_L1 l1 x47_3).length : Int)
                      ·rw [if_pos c21] at H
                       have c21b0 : decide (x40_2 < ((rd_L1 l1 x47_3).length : Int)) = true := decide_eq_true c21
                       (try (have c21b0hl6_1 := c21b0; rw [hl6_1] at c21b0hl6_1))
                       (try (have c21b0hl6_2 := c21b0; simp only [hl6_1, hl6_2] at c21b0hl6_2))
                       clear c21
                       replace H := Option.bind_eq_some_iff.mp H
                       obtain ⟨t143, A220, H⟩ := H
                       replace H : (reedsolomon_matrix_Multiply.l2 k3 l0 l1 x6_2 x33_1 x40_2 (Go.bits .xor .u8 x11_3 t143) (t133.length : Int) x33_1 ((rd_L1 x6_1 x33_1).length : Int) x40_2 ((rd_L1 l0 0).length : Int) (wrap64 (x47_3 + 1))) = some (r1, r2) := H
                       have A22 := Aside0.mk A220
                       clear A220
                       have H' := Aside0.mk H
                       clear H
                       have p139 : 0 ≤ (x33_1 : Int) := dA
                       have q139 : x33_1 < (l0.length : Int) := dA
                       obtain ⟨ad139, A139_0, c139_0, e139, hx139_0, hl139_0, hi139_0⟩ := at_L1 HR0.out x33_1 p139 q139
                       obtain rfl : ad130 = ad139 := (by injection e139)
                       replace hx139_0 := (HB.out.cell (World.block_lt_of_cell? w _ hx139_0)).trans hx139_0
                       have HR139_0 := Aside0.mk hi139_0
                       have HC139_0 := Aside0.mk hl139_0
                       clear hi139_0 hl139_0
                       replace p139 := eq_true p139
                       replace q139 := eq_true q139
                       have p140 : 0 ≤ (x47_3 : Int) := dA
                       have q140 : x47_3 < ((rd_L1 l0 x33_1).length : Int) := dA
                       obtain ⟨ad140, e140, hx140_0⟩ := Kd.at_int HR139_0.out x47_3 p140 q140
                       cases e140
                       replace hx140_0 := (HB.out.cell (World.block_lt_of_cell? w _ hx140_0)).trans hx140_0
                       replace p140 := eq_true p140
                       replace q140 := eq_true q140
                       have p141 : 0 ≤ (x47_3 : Int) := dA
                       have q141 : x47_3 < (l1.length : Int) := dA
                       obtain ⟨ad141, A141_0, c141_0, e141, hx141_0, hl141_0, hi141_0⟩ := at_L1 HR1.out x47_3 p141 q141
                       obtain rfl : ad132 = ad141 := (by injection e141)
                       replace hx141_0 := (HB.out.cell (World.block_lt_of_cell? w _ hx141_0)).trans hx141_0
                       have HR141_0 := Aside0.mk hi141_0
                       have HC141_0 := Aside0.mk hl141_0
                       clear hi141_0 hl141_0
                       replace p141 := eq_true p141
                       replace q141 := eq_true q141
                       have p142 : 0 ≤ (x40_2 : Int) := dA
                       have q142 : x40_2 < ((rd_L1 l1 x47_3).length : Int) := dA
                       obtain ⟨ad142, e142, hx142_0⟩ := Kd.at_int HR141_0.out x40_2 p142 q142
                       cases e142
                       replace hx142_0 := (HB.out.cell (World.block_lt_of_cell? w _ hx142_0)).trans hx142_0
                       replace p142 := eq_true p142
                       replace q142 := eq_true q142
                       go_wp2_with (first | (go_at_call 47; (with_reducible refine (reedsolomon_galMultiply.calls (rd (rd_L1 l0 x33_1) x47_3) (rd (rd_L1 l1 x47_3) x40_2) t143 _ ?side1 A22.out).mono ?_); (case side1 => exact TabOK.below HT.out bB); rintro e w' ⟨rfl, ⟨nd, rfl⟩⟩; (try first | exact ⟨rfl, _, World.drewN_drewN _ _ _⟩ | exact ⟨rfl, _, Eq.trans (World.drewN_drewN _ _ _) (congrArg (World.drewN _) (Nat.add_assoc _ _ _))⟩)))
                       repeat (go_quiet (first | (go_at_call 47; (with_reducible refine (reedsolomon_galMultiply.calls (rd (rd_L1 l0 x33_1) x47_3) (rd (rd_L1 l1 x47_3) x40_2) t143 _ ?side1 A22.out).mono ?_); (case side1 => exact TabOK.below HT.out bB); rintro e w' ⟨rfl, ⟨nd, rfl⟩⟩; (try first | exact ⟨rfl, _, World.drewN_drewN _ _ _⟩ | exact ⟨rfl, _, Eq.trans (World.drewN_drewN _ _ _) (congrArg (World.drewN _) (Nat.add_assoc _ _ _))⟩))); try go_wp2_with (first | (go_at_call 47; (with_reducible refine (reedsolomon_galMultiply.calls (rd (rd_L1 l0 x33_1) x47_3) (rd (rd_L1 l1 x47_3) x40_2) t143 _ ?side1 A22.out).mono ?_); (case side1 => exact TabOK.below HT.out bB); rintro e w' ⟨rfl, ⟨nd, rfl⟩⟩; (try first | exact ⟨rfl, _, World.drewN_drewN _ _ _⟩ | exact ⟨rfl, _, Eq.trans (World.drewN_drewN _ _ _) (congrArg (World.drewN _) (Nat.add_assoc _ _ _))⟩))))
                       go_roundg k3
                       case measure => have := HK1.out; have := HK2.out; have := HK3.out; omega
                       case rel => exact ⟨(Go.bits .xor .u8 x11_3 t143), (wrap64 (x47_3 + 1)), (by first | rfl | (simp; done) | (simp [*]; done)), (by first | rfl | (simp; done) | (simp [*]; done)), H', ⟨by have := HK1.out; have := HK2.out; have := HK3.out; omega⟩, ⟨by (try simp only [hl6_1]); (try simp only [hl6_2]); (with_reducible repeat (first | apply Kd.S_alloc | apply Kd.S_drewN | apply Kd.S_drew)); exact HO_6.out⟩, ⟨bB⟩⟩
                      ·rw [if_neg c21] at H
                       exact absurd H (by simp)
                     ·rw [if_neg c20] at H
                      exact absurd H (by simp)
                    ·rw [if_neg c19] at H
                     exact absurd H (by simp)
                   ·rw [if_neg c18] at H
                    exact absurd H (by simp)
                  ·rw [if_neg c17] at H
                   exact absurd H (by simp)
                 ·rw [if_neg c16] at H
                  exact absurd H (by simp)
                ·rw [if_neg c15] at H
                 exact absurd H (by simp)
               ·rw [if_neg c14] at H
                have c14b0 : decide (x47_3 < ((rd_L1 l0 0).length : Int)) = false := decide_eq_false c14
                (try (have c14b0hl6_1 := c14b0; rw [hl6_1] at c14b0hl6_1))
                (try (have c14b0hl6_2 := c14b0; simp only [hl6_1, hl6_2] at c14b0hl6_2))
                clear c14
                by_cases c23 : 0 ≤ x33_1
                ·rw [if_pos c23] at H
                 have c23b0 : decide (0 ≤ x33_1) = true := decide_eq_true c23
                 clear c23
                 by_cases c24 : x33_1 < (x6_2.length : Int)
                 ·rw [if_pos c24] at H
                  have c24b0 : decide (x33_1 < (x6_2.length : Int)) = true := decide_eq_true c24
                  (try (have c24b0hl6_1 := c24b0; rw [hl6_1] at c24b0hl6_1))
                  (try (have c24b0hl6_2 := c24b0; simp only [hl6_1, hl6_2] at c24b0hl6_2))
                  clear c24
                  by_cases c25 : 0 ≤ x40_2
                  ·rw [if_pos c25] at H
                   have c25b0 : decide (0 ≤ x40_2) = true := decide_eq_true c25
                   clear c25
                   by_cases c26 : x40_2 < ((rd_L1 x6_2 x33_1).length : Int)
                   ·rw [if_pos c26] at H
                    have c26b0 : decide (x40_2 < ((rd_L1 x6_2 x33_1).length : Int)) = true := decide_eq_true c26
                    (try (have c26b0hl6_1 := c26b0; rw [hl6_1] at c26b0hl6_1))
                    (try (have c26b0hl6_2 := c26b0; simp only [hl6_1, hl6_2] at c26b0hl6_2))
                    clear c26
                    obtain ⟨y145, hy145⟩ : ∃ y_ : List Int, y_ = ((rd_L1 x6_2 x33_1).set (x40_2 : Int).toNat x11_3) := ⟨_, rfl⟩
                    replace H : (reedsolomon_matrix_Multiply.l1 k3 l0 l1 (x6_2.set (x33_1 : Int).toNat y145) x33_1 (t133.length : Int) x33_1 ((rd_L1 x6_1 x33_1).length : Int) (wrap64 (x40_2 + 1))) = some (r1, r2) := by first | (rw [hy145]; with_reducible exact H) | (have H2_ := (Option.bind_some _ _).symm.trans H; rw [hy145]; with_reducible exact H2_) | (have H2_ := (Option.bind_some _ _).symm.trans H; with_reducible exact H2_) | with_reducible exact H | (rw [hy145]; exact H) | exact H
                    have Ny145 := Aside0.mk hy145
                    clear hy145
                    obtain ⟨y147, hy147⟩ : ∃ y_ : List (List Int), y_ = (x6_2.set (x33_1 : Int).toNat y145) := ⟨_, rfl⟩
                    replace H : (reedsolomon_matrix_Multiply.l1 k3 l0 l1 y147 x33_1 (t133.length : Int) x33_1 ((rd_L1 x6_1 x33_1).length : Int) (wrap64 (x40_2 + 1))) = some (r1, r2) := by first | (rw [hy147]; with_reducible exact H) | (have H2_ := (Option.bind_some _ _).symm.trans H; rw [hy147]; with_reducible exact H2_) | (have H2_ := (Option.bind_some _ _).symm.trans H; with_reducible exact H2_) | with_reducible exact H | (rw [hy147]; exact H) | exact H
                    have Ny147 := Aside0.mk hy147
                    clear hy147
                    have H' := Aside0.mk H
                    clear H
                    have p144 : 0 ≤ (x33_1 : Int) := dA
                    have q144 : x33_1 < (x6_2.length : Int) := dA
                    obtain ⟨ad144, A144_0, c144_0, e144, hx144_0, hl144_0, hi144_0⟩ := at_L1 (Kd.S_reads' HO_6.out).2.2 x33_1 p144 q144
                    obtain rfl : ad137 = ad144 := (by injection e144)
                    obtain ⟨ce144, hce144, hMe144, hcc144⟩ := Kd.S_get HO_6.out [] x33_1 p144 (by first | exact q144 | exact dA | (have e_ := (Kd.S_reads' HO_6.out).1; omega))
                    obtain ⟨ve144_0, rfl, ge144_0⟩ := hMe144
                    have hv144_0 := hcc144 0 _ rfl
                    rw [Nat.add_zero, show ((Kd.slice 5 (Kd.int .u8))).sz = 1 from rfl, Nat.mul_one] at hv144_0
                    replace hv144_0 := Option.some.inj (hv144_0.symm.trans hx144_0)
                    rw [hv144_0] at ge144_0
                    have HL144_0 := Aside0.mk (show Kd.R (Kd.int .u8) 5 _ _ _ _ (rd_L1 x6_2 x33_1) from ge144_0)
                    clear hv144_0 ge144_0
                    have HX144_0 := Aside0.mk hx144_0
                    clear hcc144 hce144
                    have HR144_0 := Aside0.mk hi144_0
                    have HC144_0 := Aside0.mk hl144_0
                    clear hi144_0 hl144_0
                    replace p144 := eq_true p144
                    replace q144 := eq_true q144
                    have p27 : 0 ≤ (x40_2 : Int) := dA
                    have q27 : (x40_2 : Int) < (((rd_L1 x6_2 x33_1).length : Int) : Int) := dA
                    obtain ⟨go27, co27, eo27, gb27, gl27, cl27, HG27⟩ := Kd.R_form HL144_0.out (by omega)
                    (first | cases eo27 | (injection eo27 with ea_ en_ ec_; (first | subst ea_ | (injection ea_ with ea_; subst ea_)); subst ec_; clear en_))
                    have GB27 := Aside0.mk gb27
                    have GG27 := Aside0.mk HG27
                    clear gb27 gl27 HG27
                    obtain ⟨hx27_0, hf27_0⟩ := Kd.R_celln 0 HL144_0.out (x40_2 : Int) p27 q27
                    replace p27 := eq_true p27
                    replace q27 := eq_true q27
                    have hq28 : (x33_1 : Int) < (x6_2.length : Int) := (by have h_ : (x33_1 : Int) < ((x6_2.length : Int) : Int) := dA; first | exact h_ | (have e_ := (Kd.S_reads' HO_6.out).1; omega) | simpa only [List.length_set, List.length_set] using h_)
                    obtain ⟨oki28, ce28, hcl28, hM28, hcc28, hok28, hbk28⟩ := Kd.S_borrow HO_6.out [] (x33_1 : Int) dA hq28
                    obtain ⟨ve28_0, rfl, ge28_0⟩ := hM28
                    have hv28 := hcc28 0 _ rfl
                    rw [Nat.add_zero, show ((Kd.slice 5 (Kd.int .u8))).sz = 1 from rfl, Nat.mul_one] at hv28
                    replace hv28 := Option.some.inj (hv28.symm.trans HX144_0.out)
                    subst hv28
                    clear hcc28 hcl28
                    replace ge28_0 := (show Kd.R (Kd.int .u8) 5 _ _ _ _ (rd_L1 x6_2 x33_1) from ge28_0)
                    have HP28 := Kd.R_putg ge28_0 (x40_2 : Int) x11_3
                    go_wp2_with (first | ((with_reducible refine gate_store (t := 5) (p := 74) rfl ?_); (try (rw [drewN_self wr]; generalize hq_ : World.drewN wr _ = wr; have n0_ := Aside0.mk (Kd.S_at hq_ HO_6.out); have n1_ := Aside0.mk (Kd.R_at hq_ HL148.out); have n2_ := Aside0.mk (below_at hq_ HB.out); clear hq_ HO_6 HL148 HB; have HO_6 := n0_; have HL148 := n1_; have HB := n2_; clear n0_ n1_ n2_; (try (have hq28 : (x33_1 : Int) < (x6_2.length : Int) := (by have h_ : (x33_1 : Int) < ((x6_2.length : Int) : Int) := dA; first | exact h_ | (have e_ := (Kd.S_reads' HO_6.out).1; omega) | simpa only [List.length_set, List.length_set] using h_))); (try (obtain ⟨oki28, ce28, hcl28, hM28, hcc28, hok28, hbk28⟩ := Kd.S_borrow HO_6.out [] (x33_1 : Int) dA hq28)); (try (obtain ⟨ve28_0, rfl, ge28_0⟩ := hM28)); (try (have hv28 := hcc28 0 _ rfl)); (try (rw [Nat.add_zero, show ((Kd.slice 5 (Kd.int .u8))).sz = 1 from rfl, Nat.mul_one] at hv28)); (try (replace hv28 := Option.some.inj (hv28.symm.trans HX144_0.out))); (try (subst hv28)); (try (clear hcc28 hcl28)); (try (replace ge28_0 := (show Kd.R (Kd.int .u8) 5 _ _ _ _ (rd_L1 x6_2 x33_1) from ge28_0))); (try (have HP28 := Kd.R_putg ge28_0 (x40_2 : Int) x11_3)))); refine store_event (t := 5) (p := 74) (v := ?vo_w29) (w1 := (wr.setCell ⟨go27, (x40_2 : Int).toNat, none⟩ (.int .u8 x11_3))) ?hg ?ho ?hn ?hr ?_; (case ho => rfl); (case hg => rfl); (case hn => rfl); (case hr => first | (go_simp; done) | (go_simp; rfl)); intro w29 hw; have hg : wr.grownBy w29 (some go27) := (by rw [hw]; exact HP28.2); have hz_ : Kd.R (Kd.int .u8) 5 w29 w.heap.size oki28 (.slice (some ⟨go27, 0, none⟩) (rd_L1 x6_2 x33_1).length c144_0) y145 := (by rw [hw, Ny145.out]; exact HP28.1); have hp_ : Kd.S (Kd.slice 5 (Kd.int .u8)) 22 w29 w.heap.size (fun _ => True) (.slice (some ad137) x6_2.length co8) y147 := (by rw [Ny147.out]; exact hbk28 hg (fun k_ e_ => by injection e_ with e_; subst e_; exact ge28_0.1 _ rfl) (Kd.M_row hz_)); have hm_ := Kd.R_mono hz_ hok28; clear HP28 hbk28; have n0_ := Aside0.mk (hp_); have n1_ := Aside0.mk ((by rw [hw]; exact below_set (HB.out) GB27.out : Below w.heap.size w w29)); have n2_ := Aside0.mk (hm_); have n3_ := Aside0.mk ((Kd.R_reads' hm_).2.1); clear HO_6; clear HB; clear HL144_0; have HO_6 := n0_; have HB := n1_; have HL148 := n2_; have HC146 := n3_; clear n0_ n1_ n2_ n3_; clear hg hw hp_ hz_ hm_ hok28))
                    repeat (go_quiet (first | ((with_reducible refine gate_store (t := 5) (p := 74) rfl ?_); (try (rw [drewN_self wr]; generalize hq_ : World.drewN wr _ = wr; have n0_ := Aside0.mk (Kd.S_at hq_ HO_6.out); have n1_ := Aside0.mk (Kd.R_at hq_ HL148.out); have n2_ := Aside0.mk (below_at hq_ HB.out); clear hq_ HO_6 HL148 HB; have HO_6 := n0_; have HL148 := n1_; have HB := n2_; clear n0_ n1_ n2_; (try (have hq28 : (x33_1 : Int) < (x6_2.length : Int) := (by have h_ : (x33_1 : Int) < ((x6_2.length : Int) : Int) := dA; first | exact h_ | (have e_ := (Kd.S_reads' HO_6.out).1; omega) | simpa only [List.length_set, List.length_set] using h_))); (try (obtain ⟨oki28, ce28, hcl28, hM28, hcc28, hok28, hbk28⟩ := Kd.S_borrow HO_6.out [] (x33_1 : Int) dA hq28)); (try (obtain ⟨ve28_0, rfl, ge28_0⟩ := hM28)); (try (have hv28 := hcc28 0 _ rfl)); (try (rw [Nat.add_zero, show ((Kd.slice 5 (Kd.int .u8))).sz = 1 from rfl, Nat.mul_one] at hv28)); (try (replace hv28 := Option.some.inj (hv28.symm.trans HX144_0.out))); (try (subst hv28)); (try (clear hcc28 hcl28)); (try (replace ge28_0 := (show Kd.R (Kd.int .u8) 5 _ _ _ _ (rd_L1 x6_2 x33_1) from ge28_0))); (try (have HP28 := Kd.R_putg ge28_0 (x40_2 : Int) x11_3)))); refine store_event (t := 5) (p := 74) (v := ?vo_w29) (w1 := (wr.setCell ⟨go27, (x40_2 : Int).toNat, none⟩ (.int .u8 x11_3))) ?hg ?ho ?hn ?hr ?_; (case ho => rfl); (case hg => rfl); (case hn => rfl); (case hr => first | (go_simp; done) | (go_simp; rfl)); intro w29 hw; have hg : wr.grownBy w29 (some go27) := (by rw [hw]; exact HP28.2); have hz_ : Kd.R (Kd.int .u8) 5 w29 w.heap.size oki28 (.slice (some ⟨go27, 0, none⟩) (rd_L1 x6_2 x33_1).length c144_0) y145 := (by rw [hw, Ny145.out]; exact HP28.1); have hp_ : Kd.S (Kd.slice 5 (Kd.int .u8)) 22 w29 w.heap.size (fun _ => True) (.slice (some ad137) x6_2.length co8) y147 := (by rw [Ny147.out]; exact hbk28 hg (fun k_ e_ => by injection e_ with e_; subst e_; exact ge28_0.1 _ rfl) (Kd.M_row hz_)); have hm_ := Kd.R_mono hz_ hok28; clear HP28 hbk28; have n0_ := Aside0.mk (hp_); have n1_ := Aside0.mk ((by rw [hw]; exact below_set (HB.out) GB27.out : Below w.heap.size w w29)); have n2_ := Aside0.mk (hm_); have n3_ := Aside0.mk ((Kd.R_reads' hm_).2.1); clear HO_6; clear HB; clear HL144_0; have HO_6 := n0_; have HB := n1_; have HL148 := n2_; have HC146 := n3_; clear n0_ n1_ n2_ n3_; clear hg hw hp_ hz_ hm_ hok28)); try go_wp2_with (first | ((with_reducible refine gate_store (t := 5) (p := 74) rfl ?_); (try (rw [drewN_self wr]; generalize hq_ : World.drewN wr _ = wr; have n0_ := Aside0.mk (Kd.S_at hq_ HO_6.out); have n1_ := Aside0.mk (Kd.R_at hq_ HL148.out); have n2_ := Aside0.mk (below_at hq_ HB.out); clear hq_ HO_6 HL148 HB; have HO_6 := n0_; have HL148 := n1_; have HB := n2_; clear n0_ n1_ n2_; (try (have hq28 : (x33_1 : Int) < (x6_2.length : Int) := (by have h_ : (x33_1 : Int) < ((x6_2.length : Int) : Int) := dA; first | exact h_ | (have e_ := (Kd.S_reads' HO_6.out).1; omega) | simpa only [List.length_set, List.length_set] using h_))); (try (obtain ⟨oki28, ce28, hcl28, hM28, hcc28, hok28, hbk28⟩ := Kd.S_borrow HO_6.out [] (x33_1 : Int) dA hq28)); (try (obtain ⟨ve28_0, rfl, ge28_0⟩ := hM28)); (try (have hv28 := hcc28 0 _ rfl)); (try (rw [Nat.add_zero, show ((Kd.slice 5 (Kd.int .u8))).sz = 1 from rfl, Nat.mul_one] at hv28)); (try (replace hv28 := Option.some.inj (hv28.symm.trans HX144_0.out))); (try (subst hv28)); (try (clear hcc28 hcl28)); (try (replace ge28_0 := (show Kd.R (Kd.int .u8) 5 _ _ _ _ (rd_L1 x6_2 x33_1) from ge28_0))); (try (have HP28 := Kd.R_putg ge28_0 (x40_2 : Int) x11_3)))); refine store_event (t := 5) (p := 74) (v := ?vo_w29) (w1 := (wr.setCell ⟨go27, (x40_2 : Int).toNat, none⟩ (.int .u8 x11_3))) ?hg ?ho ?hn ?hr ?_; (case ho => rfl); (case hg => rfl); (case hn => rfl); (case hr => first | (go_simp; done) | (go_simp; rfl)); intro w29 hw; have hg : wr.grownBy w29 (some go27) := (by rw [hw]; exact HP28.2); have hz_ : Kd.R (Kd.int .u8) 5 w29 w.heap.size oki28 (.slice (some ⟨go27, 0, none⟩) (rd_L1 x6_2 x33_1).length c144_0) y145 := (by rw [hw, Ny145.out]; exact HP28.1); have hp_ : Kd.S (Kd.slice 5 (Kd.int .u8)) 22 w29 w.heap.size (fun _ => True) (.slice (some ad137) x6_2.length co8) y147 := (by rw [Ny147.out]; exact hbk28 hg (fun k_ e_ => by injection e_ with e_; subst e_; exact ge28_0.1 _ rfl) (Kd.M_row hz_)); have hm_ := Kd.R_mono hz_ hok28; clear HP28 hbk28; have n0_ := Aside0.mk (hp_); have n1_ := Aside0.mk ((by rw [hw]; exact below_set (HB.out) GB27.out : Below w.heap.size w w29)); have n2_ := Aside0.mk (hm_); have n3_ := Aside0.mk ((Kd.R_reads' hm_).2.1); clear HO_6; clear HB; clear HL144_0; have HO_6 := n0_; have HB := n1_; have HL148 := n2_; have HC146 := n3_; clear n0_ n1_ n2_ n3_; clear hg hw hp_ hz_ hm_ hok28)))
                    (try simp only [← hl6_2])
                    go_roundg k3
                    case measure => have := HK1.out; have := HK2.out; have := HK3.out; omega
                    case rel => exact ⟨(y147), (wrap64 (x40_2 + 1)), (by first | rfl | (simp; done) | (simp [*]; done)), H', ⟨by have := HK1.out; have := HK2.out; have := HK3.out; omega⟩, ⟨by (try simp only [hl6_1]); (try simp only [hl6_2]); (with_reducible repeat (first | apply Kd.S_alloc | apply Kd.S_drewN | apply Kd.S_drew)); exact HO_6.out⟩, ⟨bB⟩⟩
                   ·rw [if_neg c26] at H
                    exact absurd H (by simp)
                  ·rw [if_neg c25] at H
                   exact absurd H (by simp)
                 ·rw [if_neg c24] at H
                  exact absurd H (by simp)
                ·rw [if_neg c23] at H
                 exact absurd H (by simp)
            ·rw [if_neg c13] at H
             exact absurd H (by simp)
           ·rw [if_neg c12] at H
            have c12b0 : decide (x40_2 < ((rd_L1 x6_1 x33_1).length : Int)) = false := decide_eq_false c12
            (try (have c12b0hl6_1 := c12b0; rw [hl6_1] at c12b0hl6_1))
            (try (have c12b0hl6_2 := c12b0; simp only [hl6_1, hl6_2] at c12b0hl6_2))
            clear c12
            have H' := Aside0.mk H
            clear H
            go_wp2
            repeat (go_quiet (fail); try go_wp2)
            (try simp only [← hl6_1, ← hl6_2])
            go_roundg k2
            case measure => have := HK1.out; have := HK2.out; omega
            case rel => exact ⟨(x6_2), (wrap64 (x33_1 + 1)), (by first | rfl | (simp; done) | (simp [*]; done)), H', ⟨by have := HK1.out; have := HK2.out; omega⟩, ⟨by (try simp only [hl6_1]); (try simp only [hl6_2]); (with_reducible repeat (first | apply Kd.S_alloc | apply Kd.S_drewN | apply Kd.S_drew)); exact HO_6.out⟩, ⟨bB⟩⟩
        ·rw [if_neg c11] at H
         exact absurd H (by simp)
       ·rw [if_neg c10] at H
        exact absurd H (by simp)
      ·rw [if_neg c9] at H
       have c9b0 : decide (x33_1 < (t133.length : Int)) = false := decide_eq_false c9
       (try (have c9b0hl6_1 := c9b0; rw [hl6_1] at c9b0hl6_1))
       clear c9
       simp only [Option.some.injEq, Prod.mk.injEq] at H
       obtain ⟨rfl, rfl⟩ := H
       go_wp2
       repeat (go_quiet (fail); try go_wp2)
       go_ret2
       exact ⟨(fun _ => 0), (fun _ => .nilIface), _, by first | rfl | (simp [errW_none, errW_some] <;> rfl) | (simp [*, errW_none, errW_some] <;> rfl), by (with_reducible repeat (first | apply Kd.S_alloc | apply Kd.S_drewN | apply Kd.S_drew)); exact HO_6.out, bB⟩
   ·rw [if_neg c5] at H
    exact absurd H (by simp)
  ·rw [if_neg c4] at H
   have c4b0 : (((rd_L1 l0 0).length : Int) == (l1.length : Int)) = false := beq_eq_false_iff_ne.mpr c4
   have c4b1 : (((rd_L1 l0 0).length : Int) != (l1.length : Int)) = true := bne_iff_ne.mpr c4
   have c4b2 : ((rd_L1 l0 0).length == l1.length) = false := by first | simpa using c4 | (simp at c4 ⊢; omega)
   replace H := Option.bind_eq_some_iff.mp H
   obtain ⟨t131, A300, H⟩ := H
   replace H : (some (([] : List (List Int)), t131)) = some (r1, r2) := H
   have A30 := Aside0.mk A300
   clear A300
   simp only [Option.some.injEq, Prod.mk.injEq] at H
   obtain ⟨rfl, rfl⟩ := H
   have p130 : 0 ≤ (0 : Int) := (by omega)
   have q130 : 0 < (l0.length : Int) := dA
   obtain ⟨ad130, A130_0, c130_0, e130, hx130_0, hl130_0, hi130_0⟩ := at_L1 HR0.out 0 p130 q130
   cases e130
   have qi130 : (0 < l0.length) = True := eq_true (by omega)
   (try rw [show ((0 : Int)).toNat = 0 from rfl] at hx130_0)
   (try rw [Addr.add_zero'] at hx130_0)
   have HR130_0 := Aside0.mk hi130_0
   have HC130_0 := Aside0.mk hl130_0
   clear hi130_0 hl130_0
   replace p130 := eq_true p130
   replace q130 := eq_true q130
   go_enter Tryd.func51, Tryd.ntmps51
   go_wp2_with (first | (go_at_call 59; (with_reducible refine (errors_New.calls (⟨#[99, 111, 108, 117, 109, 110, 115, 32, 111, 110, 32, 108, 101, 102, 116, 32, 32, 105, 115, 32, 100, 105, 102, 102, 101, 114, 101, 110, 116, 32, 116, 104, 97, 110, 32, 114, 111, 119, 115, 32, 111, 110, 32, 114, 105, 103, 104, 116, 32]⟩ : ByteArray) t131 _ A30.out).mono ?_); rintro e w31 ⟨Tt131, Xt131, rfl, hb⟩; have n0_ := Aside0.mk (below_step bB hb); clear HB; have HB := n0_; clear n0_; (try clear hb); (try clear hb2); (try clear hk); (try clear hi); (try simp only [errW_none, errW_some])))
   repeat (go_quiet (first | (go_at_call 59; (with_reducible refine (errors_New.calls (⟨#[99, 111, 108, 117, 109, 110, 115, 32, 111, 110, 32, 108, 101, 102, 116, 32, 32, 105, 115, 32, 100, 105, 102, 102, 101, 114, 101, 110, 116, 32, 116, 104, 97, 110, 32, 114, 111, 119, 115, 32, 111, 110, 32, 114, 105, 103, 104, 116, 32]⟩ : ByteArray) t131 _ A30.out).mono ?_); rintro e w31 ⟨Tt131, Xt131, rfl, hb⟩; have n0_ := Aside0.mk (below_step bB hb); clear HB; have HB := n0_; clear n0_; (try clear hb); (try clear hb2); (try clear hk); (try clear hi); (try simp only [errW_none, errW_some]))); try go_wp2_with (first | (go_at_call 59; (with_reducible refine (errors_New.calls (⟨#[99, 111, 108, 117, 109, 110, 115, 32, 111, 110, 32, 108, 101, 102, 116, 32, 32, 105, 115, 32, 100, 105, 102, 102, 101, 114, 101, 110, 116, 32, 116, 104, 97, 110, 32, 114, 111, 119, 115, 32, 111, 110, 32, 114, 105, 103, 104, 116, 32]⟩ : ByteArray) t131 _ A30.out).mono ?_); rintro e w31 ⟨Tt131, Xt131, rfl, hb⟩; have n0_ := Aside0.mk (below_step bB hb); clear HB; have HB := n0_; clear n0_; (try clear hb); (try clear hb2); (try clear hk); (try clear hi); (try simp only [errW_none, errW_some]))))
   go_ret2
   exact ⟨Tt131, Xt131, (.slice none 0 0), by first | rfl | (simp [errW_none, errW_some] <;> rfl) | (simp [*, errW_none, errW_some] <;> rfl), by first | exact Kd.V_nil _ _ _ _ _ | exact Kd.R_nil _ _ _ _ _ | exact Kd.S_nil _ _ _ _ _ | exact Kd.N_nil _ _ _ _ _ | exact Kd.Q_nil _ _ _ _ _, bB⟩
 ·rw [if_neg c3] at H
  exact absurd H (by simp)


/-! ### reedsolomon_DoorTimes: function 39 -/
def reedsolomon_DoorTimes.f (k : Nat) (l0 : List (List Int)) (l1 : List (List Int)) : Option ((List (List Int)) × Option Int) := (reedsolomon_matrix_Multiply.f k l0 l1).bind fun bt149 => (some (bt149.1, bt149.2))
theorem reedsolomon_DoorTimes.mono : ∀ a0 a1 k, LeO (reedsolomon_DoorTimes.f k a0 a1) (reedsolomon_DoorTimes.f (k + 1) a0 a1) := by
 intro a0 a1 k
 unfold reedsolomon_DoorTimes.f
 repeat' first
   | (with_reducible exact reedsolomon_matrix_Multiply.mono _ _ _)
   | (with_reducible exact LeO.refl _)
   | (with_reducible exact LeO.none _)
   | (with_reducible refine LeO.ite ?_ ?_)
   | (with_reducible refine LeO.bind ?_ (fun _ => ?_))
   | exact reedsolomon_matrix_Multiply.mono _ _ _
   | exact LeO.none _
   | refine LeO.ite ?_ ?_
   | refine LeO.bind ?_ (fun _ => ?_)
set_option maxHeartbeats 8000000 in
set_option maxRecDepth 100000 in
theorem reedsolomon_DoorTimes.calls (k : Nat) (A0 : Option Addr) (c0 : Nat) (l0 : List (List Int)) (A1 : Option Addr) (c1 : Nat) (l1 : List (List Int)) (r1 : List (List Int)) (r2 : Option Int) (w : World) (hT : TabOK w) (hr0 : Kd.C (Kd.slice 5 (Kd.int .u8)) w A0 l0.length l0) (hc0 : l0.length ≤ c0) (hr1 : Kd.C (Kd.slice 5 (Kd.int .u8)) w A1 l1.length l1) (hc1 : l1.length ≤ c1) (h : reedsolomon_DoorTimes.f k l0 l1 = some (r1, r2)) :
  Calls Tryd.prog 39 #[.slice A0 l0.length c0, .slice A1 l1.length c1] w fun e w' => ∃ (T_ : Int → TypeId) (X_ : Int → Value), ∃ v0_ : Value, e = .returned (.tuple #[v0_, errW T_ X_ r2]) ∧ Kd.S (Kd.slice 5 (Kd.int .u8)) 22 w' w.heap.size (fun _ => True) v0_ r1 ∧ Below w.heap.size w w' := by
 have HT := Aside0.mk hT
 clear hT
 have HR0 := Aside0.mk hr0
 have HC0 := Aside0.mk hc0
 clear hr0 hc0
 have HR1 := Aside0.mk hr1
 have HC1 := Aside0.mk hc1
 clear hr1 hc1
 have HB := Aside0.mk (Below.refl w.heap.size w)
 have H : ((reedsolomon_matrix_Multiply.f k l0 l1).bind fun bt149 => (some (bt149.1, bt149.2))) = some (r1, r2) := h
 clear h
 replace H := Option.bind_eq_some_iff.mp H
 obtain ⟨⟨t149, t150⟩, A30, H⟩ := H
 replace H : (some (t149, t150)) = some (r1, r2) := H
 have A3 := Aside0.mk A30
 clear A30
 simp only [Option.some.injEq, Prod.mk.injEq] at H
 obtain ⟨rfl, rfl⟩ := H
 go_enter Tryd.func39, Tryd.ntmps39
 go_wp2_with (first | ((with_reducible refine gate_callee (f := 51) rfl ?_); refine goesL_ (some 8) rfl rfl Tryd.func51 (by kernel_rfl) rfl #[.slice A0 l0.length c0, .slice A1 l1.length c1] rfl aV ?_; (with_reducible refine (reedsolomon_matrix_Multiply.calls k _ _ l0 _ _ l1 t149 t150 _ ?side1 ?side2 ?side3 ?side4 ?side5 A3.out).mono ?_); (case side1 => exact TabOK.below HT.out bB); (case side2 => repeat (first | exact HR0.out | (with_reducible refine Kd.C_alloc ?_ _) | (with_reducible refine Kd.C_drewN ?_ _) | (with_reducible refine Kd.C_drew ?_))); (case side3 => exact HC0.out); (case side4 => repeat (first | exact HR1.out | (with_reducible refine Kd.C_alloc ?_ _) | (with_reducible refine Kd.C_drewN ?_ _) | (with_reducible refine Kd.C_drew ?_))); (case side5 => exact HC1.out); rintro e w4 ⟨Tt150, Xt150, v151, rfl, ho0, hb⟩; refine ⟨_, rfl, ?_⟩; have n0_ := Aside0.mk (Kd.S_lower ho0 (below_size bB)); have n1_ := Aside0.mk (below_step bB hb); clear HB; have HO152 := n0_; have HB := n1_; clear n0_ n1_; (try clear hb); (try clear hb2); (try clear hk); (try clear hi); (try clear ho0); (try simp only [errW_none, errW_some])))
 go_ret2
 exact ⟨Tt150, Xt150, _, by first | rfl | (simp [errW_none, errW_some] <;> rfl) | (simp [*, errW_none, errW_some] <;> rfl), by (with_reducible repeat (first | apply Kd.S_alloc | apply Kd.S_drewN | apply Kd.S_drew)); exact HO152.out, bB⟩


/-! ### impl_Multiply: function 21 -/
def impl_Multiply.j0 : Nat → List (List Int) → List (List Int) → Bool → Option ((List (List Int)) × Bool)
 | 0, _, _, _ => none
 | k + 1, x0, x1, x15 => if x15 = true then (some (([] : List (List Int)), false)) else ((impl_rows.f k x0).bind fun t155 => ((impl_rows.f k x1).bind fun t158 => ((reedsolomon_DoorTimes.f k t155 t158).bind fun bt161 => ((impl_rows.f k bt161.1).bind fun t165 => (if bt161.2.isNone = true then (some (t165, true)) else (some (t165, false)))))))
def impl_Multiply.f (k : Nat) (l0 : List (List Int)) (l1 : List (List Int)) : Option ((List (List Int)) × Bool) := (impl_isMatrix.f k l0).bind fun t153 => (if t153 = true then ((impl_isMatrix.f k l1).bind fun t154 => (impl_Multiply.j0 k l0 l1 (!t154))) else (impl_Multiply.j0 k l0 l1 true))
theorem impl_Multiply.mono_l : ∀ k, (∀ y0 y1 y2, LeO (impl_Multiply.j0 k y0 y1 y2) (impl_Multiply.j0 (k + 1) y0 y1 y2))
 | 0 => fun _ _ _ r h => by simp [impl_Multiply.j0] at h
 | k + 1 => by
  have ih0 := impl_Multiply.mono_l k
  ·intro y0 y1 y2
   unfold impl_Multiply.j0
   repeat' first
   | (with_reducible exact ih0 _ _ _)
   | (with_reducible exact impl_isMatrix.mono _ _)
   | (with_reducible exact impl_rows.mono _ _)
   | (with_reducible exact reedsolomon_DoorTimes.mono _ _ _)
   | (with_reducible exact LeO.refl _)
   | (with_reducible exact LeO.none _)
   | (with_reducible refine LeO.ite ?_ ?_)
   | (with_reducible refine LeO.bind ?_ (fun _ => ?_))
   | exact ih0 _ _ _
   | exact impl_isMatrix.mono _ _
   | exact impl_rows.mono _ _
   | exact reedsolomon_DoorTimes.mono _ _ _
   | exact LeO.none _
   | refine LeO.ite ?_ ?_
   | refine LeO.bind ?_ (fun _ => ?_)
theorem impl_Multiply.mono : ∀ a0 a1 k, LeO (impl_Multiply.f k a0 a1) (impl_Multiply.f (k + 1) a0 a1) := by
 intro a0 a1 k
 have ih0 := impl_Multiply.mono_l k
 unfold impl_Multiply.f
 repeat' first
   | (with_reducible exact ih0 _ _ _)
   | (with_reducible exact impl_isMatrix.mono _ _)
   | (with_reducible exact impl_rows.mono _ _)
   | (with_reducible exact reedsolomon_DoorTimes.mono _ _ _)
   | (with_reducible exact LeO.refl _)
   | (with_reducible exact LeO.none _)
   | (with_reducible refine LeO.ite ?_ ?_)
   | (with_reducible refine LeO.bind ?_ (fun _ => ?_))
   | exact ih0 _ _ _
   | exact impl_isMatrix.mono _ _
   | exact impl_rows.mono _ _
   | exact reedsolomon_DoorTimes.mono _ _ _
   | exact LeO.none _
   | refine LeO.ite ?_ ?_
   | refine LeO.bind ?_ (fun _ => ?_)
set_option maxHeartbeats 8000000 in
set_option maxRecDepth 100000 in
theorem impl_Multiply.calls (k : Nat) (A0 : Option Addr) (c0 : Nat) (l0 : List (List Int)) (A1 : Option Addr) (c1 : Nat) (l1 : List (List Int)) (r1 : List (List Int)) (r2 : Bool) (w : World) (hT : TabOK w) (hr0 : Kd.C (Kd.slice 5 (Kd.int .u8)) w A0 l0.length l0) (hc0 : l0.length ≤ c0) (hr1 : Kd.C (Kd.slice 5 (Kd.int .u8)) w A1 l1.length l1) (hc1 : l1.length ≤ c1) (h : impl_Multiply.f k l0 l1 = some (r1, r2)) :
  Calls Tryd.prog 21 #[.slice A0 l0.length c0, .slice A1 l1.length c1] w fun e w' => ∃ v0_ : Value, e = .returned (.tuple #[v0_, .bool r2]) ∧ Kd.S (Kd.slice 5 (Kd.int .u8)) 22 w' w.heap.size (fun _ => True) v0_ r1 ∧ Below w.heap.size w w' := by
 have hu60 := Tryd.underlying60
 have HT := Aside0.mk hT
 clear hT
 have HR0 := Aside0.mk hr0
 have HC0 := Aside0.mk hc0
 clear hr0 hc0
 have HR1 := Aside0.mk hr1
 have HC1 := Aside0.mk hc1
 clear hr1 hc1
 have HB := Aside0.mk (Below.refl w.heap.size w)
 have H : ((impl_isMatrix.f k l0).bind fun t153 => (if t153 = true then ((impl_isMatrix.f k l1).bind fun t154 => (impl_Multiply.j0 k l0 l1 (!t154))) else (impl_Multiply.j0 k l0 l1 true))) = some (r1, r2) := h
 clear h
 have HC3 := Aside0.mk H
 clear H
 go_enter Tryd.func21, Tryd.ntmps21
 go_upto_region 1 with (fail)
 go_cut [15] (fun v15 wc => ∃ (kq : Nat) (x15_2 : Bool), v15 = .bool x15_2 ∧ Aside0 (impl_Multiply.j0 kq l0 l1 x15_2 = some (r1, r2)) ∧ Aside0 (kq ≤ k) ∧ Aside0 (Below w.heap.size w wc))
 case first =>
  have H := HC3.out
  clear HC3
  replace H := Option.bind_eq_some_iff.mp H
  obtain ⟨t153, A40, H⟩ := H
  replace H : (if t153 = true then ((impl_isMatrix.f k l1).bind fun t154 => (impl_Multiply.j0 k l0 l1 (!t154))) else (impl_Multiply.j0 k l0 l1 true)) = some (r1, r2) := H
  have A4 := Aside0.mk A40
  clear A40
  by_cases c5 : t153 = true
  ·subst c5
   have H1 : ((impl_isMatrix.f k l1).bind fun t154 => (impl_Multiply.j0 k l0 l1 (!t154))) = some (r1, r2) := by rw [if_pos rfl] at H; exact H
   clear H
   have H := H1
   clear H1
   replace H := Option.bind_eq_some_iff.mp H
   obtain ⟨t154, A60, H⟩ := H
   replace H : (impl_Multiply.j0 k l0 l1 (!t154)) = some (r1, r2) := H
   have A6 := Aside0.mk A60
   clear A60
   have H' := Aside0.mk H
   clear H
   go_wp2_with (first | ((with_reducible refine gate_callee (f := 38) rfl ?_); refine goesL_ (some 9) rfl rfl Tryd.func38 (by kernel_rfl) rfl #[.slice A0 l0.length c0] rfl aV ?_; (with_reducible refine (impl_isMatrix.calls k _ _ l0 true _ ?side1 ?side2 ?side3 A4.out).mono ?_); (case side1 => exact TabOK.below HT.out bB); (case side2 => repeat (first | exact (Kd.C_below HR0.out HB.out) | (with_reducible refine Kd.C_alloc ?_ _) | (with_reducible refine Kd.C_drewN ?_ _) | (with_reducible refine Kd.C_drew ?_))); (case side3 => exact HC0.out); rintro e w' ⟨rfl, ⟨nd, rfl⟩⟩; refine ⟨_, rfl, ?_⟩) | (go_at_call 38; (with_reducible refine (impl_isMatrix.calls k _ _ l1 t154 _ ?side1 ?side2 ?side3 A6.out).mono ?_); (case side1 => exact TabOK.below HT.out bB); (case side2 => repeat (first | exact (Kd.C_below HR1.out bB) | (with_reducible refine Kd.C_alloc ?_ _) | (with_reducible refine Kd.C_drewN ?_ _) | (with_reducible refine Kd.C_drew ?_))); (case side3 => exact HC1.out); rintro e w' ⟨rfl, ⟨nd, rfl⟩⟩))
   go_meet
   case rel => exact ⟨_, (!t154), (by first | rfl | (simp; done) | (simp [*]; done)), H', ⟨by first | omega | exact Nat.le_refl _⟩, ⟨bB⟩⟩
  ·replace c5 := Bool.eq_false_iff.mpr c5
   subst c5
   have H1 : (impl_Multiply.j0 k l0 l1 true) = some (r1, r2) := by rw [if_neg (show ¬ (false = true) by decide)] at H; exact H
   clear H
   have H := H1
   clear H1
   have H' := Aside0.mk H
   clear H
   go_wp2_with (first | ((with_reducible refine gate_callee (f := 38) rfl ?_); refine goesL_ (some 9) rfl rfl Tryd.func38 (by kernel_rfl) rfl #[.slice A0 l0.length c0] rfl aV ?_; (with_reducible refine (impl_isMatrix.calls k _ _ l0 false _ ?side1 ?side2 ?side3 A4.out).mono ?_); (case side1 => exact TabOK.below HT.out bB); (case side2 => repeat (first | exact (Kd.C_below HR0.out HB.out) | (with_reducible refine Kd.C_alloc ?_ _) | (with_reducible refine Kd.C_drewN ?_ _) | (with_reducible refine Kd.C_drew ?_))); (case side3 => exact HC0.out); rintro e w' ⟨rfl, ⟨nd, rfl⟩⟩; refine ⟨_, rfl, ?_⟩))
   go_meet
   case rel => exact ⟨_, (true), (by first | rfl | (simp; done) | (simp [*]; done)), H', ⟨by first | omega | exact Nat.le_refl _⟩, ⟨bB⟩⟩
 case rest =>
  clear HC3
  try clear c1
  try clear c2
  try clear p2
  try clear c3
  try clear c5
  obtain ⟨kq, x15_2, rfl, HA, HJ2, HB⟩ := hcut
  cases kq with
  | zero => exact absurd HA.out (by simp [impl_Multiply.j0])
  | succ kj2 =>
   have H := HA.out
   clear HA
   simp only [impl_Multiply.j0] at H
   by_cases c7 : x15_2 = true
   ·subst c7
    have H1 : (some (([] : List (List Int)), false)) = some (r1, r2) := by rw [if_pos rfl] at H; exact H
    clear H
    have H := H1
    clear H1
    simp only [Option.some.injEq, Prod.mk.injEq] at H
    obtain ⟨rfl, rfl⟩ := H
    go_wp2
    go_ret2
    exact ⟨(.slice none 0 0), by first | rfl | (simp [errW_none, errW_some] <;> rfl) | (simp [*, errW_none, errW_some] <;> rfl), by first | exact Kd.V_nil _ _ _ _ _ | exact Kd.R_nil _ _ _ _ _ | exact Kd.S_nil _ _ _ _ _ | exact Kd.N_nil _ _ _ _ _ | exact Kd.Q_nil _ _ _ _ _, bB⟩
   ·replace c7 := Bool.eq_false_iff.mpr c7
    subst c7
    have H1 : ((impl_rows.f kj2 l0).bind fun t155 => ((impl_rows.f kj2 l1).bind fun t158 => ((reedsolomon_DoorTimes.f kj2 t155 t158).bind fun bt161 => ((impl_rows.f kj2 bt161.1).bind fun t165 => (if bt161.2.isNone = true then (some (t165, true)) else (some (t165, false))))))) = some (r1, r2) := by rw [if_neg (show ¬ (false = true) by decide)] at H; exact H
    clear H
    have H := H1
    clear H1
    replace H := Option.bind_eq_some_iff.mp H
    obtain ⟨t155, A80, H⟩ := H
    replace H : ((impl_rows.f kj2 l1).bind fun t158 => ((reedsolomon_DoorTimes.f kj2 t155 t158).bind fun bt161 => ((impl_rows.f kj2 bt161.1).bind fun t165 => (if bt161.2.isNone = true then (some (t165, true)) else (some (t165, false)))))) = some (r1, r2) := H
    have A8 := Aside0.mk A80
    clear A80
    replace H := Option.bind_eq_some_iff.mp H
    obtain ⟨t158, A90, H⟩ := H
    replace H : ((reedsolomon_DoorTimes.f kj2 t155 t158).bind fun bt161 => ((impl_rows.f kj2 bt161.1).bind fun t165 => (if bt161.2.isNone = true then (some (t165, true)) else (some (t165, false))))) = some (r1, r2) := H
    have A9 := Aside0.mk A90
    clear A90
    replace H := Option.bind_eq_some_iff.mp H
    obtain ⟨⟨t161, t162⟩, A100, H⟩ := H
    replace H : ((impl_rows.f kj2 t161).bind fun t165 => (if t162.isNone = true then (some (t165, true)) else (some (t165, false)))) = some (r1, r2) := H
    have A10 := Aside0.mk A100
    clear A100
    replace H := Option.bind_eq_some_iff.mp H
    obtain ⟨t165, A110, H⟩ := H
    replace H : (if t162.isNone = true then (some (t165, true)) else (some (t165, false))) = some (r1, r2) := H
    have A11 := Aside0.mk A110
    clear A110
    rcases t162 with _ | q168
    ·have H1 : (some (t165, true)) = some (r1, r2) := by rw [if_pos (show (none : Option Int).isNone = true by rfl)] at H; exact H
     clear H
     have H := H1
     clear H1
     try simp only [errW_none, errW_some]
     simp only [Option.some.injEq, Prod.mk.injEq] at H
     obtain ⟨rfl, rfl⟩ := H
     try go_wp2_with (first | ((with_reducible refine gate_callee (f := 36) rfl ?_); refine goesL_ (some 18) rfl rfl Tryd.func36 (by kernel_rfl) rfl #[.slice A0 l0.length c0] rfl aV ?_; (with_reducible refine (impl_rows.calls kj2 _ _ l0 t155 _ ?side1 ?side2 A8.out).mono ?_); (case side1 => repeat (first | exact (Kd.C_below HR0.out HB.out) | (with_reducible refine Kd.C_alloc ?_ _) | (with_reducible refine Kd.C_drewN ?_ _) | (with_reducible refine Kd.C_drew ?_))); (case side2 => exact HC0.out); rintro e w12 ⟨v156, rfl, ho0, hb⟩; refine ⟨_, rfl, ?_⟩; have n0_ := Aside0.mk (Kd.S_lower ho0 (below_size bB)); have n1_ := Aside0.mk (below_step bB hb); clear HB; have HO157 := n0_; have HB := n1_; clear n0_ n1_; (try clear hb); (try clear hb2); (try clear hk); (try clear hi); (try clear ho0)) | ((with_reducible refine gate_callee (f := 36) rfl ?_); refine goesL_ (some 20) rfl rfl Tryd.func36 (by kernel_rfl) rfl #[.slice A1 l1.length c1] rfl aV ?_; (with_reducible refine (impl_rows.calls kj2 _ _ l1 t158 _ ?side1 ?side2 A9.out).mono ?_); (case side1 => repeat (first | exact (Kd.C_below HR1.out HB.out) | (with_reducible refine Kd.C_alloc ?_ _) | (with_reducible refine Kd.C_drewN ?_ _) | (with_reducible refine Kd.C_drew ?_))); (case side2 => exact HC1.out); rintro e w13 ⟨v159, rfl, ho0, hb⟩; refine ⟨_, rfl, ?_⟩; have n0_ := Aside0.mk (Kd.S_elder' (by (with_reducible repeat (first | apply Kd.S_alloc | apply Kd.S_drewN | apply Kd.S_drew)); exact HO157.out) (Kd.S_base ho0) hb); have n1_ := Aside0.mk (Kd.S_lower (Kd.S_new' ho0 (Kd.S_lt (by (with_reducible repeat (first | apply Kd.S_alloc | apply Kd.S_drewN | apply Kd.S_drew)); exact HO157.out))) (below_size bB)); have n2_ := Aside0.mk (below_step bB hb); clear HO157; clear HB; have HO157 := n0_; have HO160 := n1_; have HB := n2_; clear n0_ n1_ n2_; (try clear hb); (try clear hb2); (try clear hk); (try clear hi); (try clear ho0); obtain ⟨Ao14, co14, eo14⟩ := Kd.S_slice HO157.out; subst eo14; obtain ⟨Ao15, co15, eo15⟩ := Kd.S_slice HO160.out; subst eo15) | ((with_reducible refine gate_callee (f := 39) rfl ?_); refine goesL_ (some 21) rfl rfl Tryd.func39 (by kernel_rfl) rfl #[.slice Ao14 t155.length co14, .slice Ao15 t158.length co15] rfl aV ?_; (with_reducible refine (reedsolomon_DoorTimes.calls kj2 _ _ t155 _ _ t158 t161 none _ ?side1 ?side2 ?side3 ?side4 ?side5 A10.out).mono ?_); (case side1 => exact TabOK.below HT.out bB); (case side2 => repeat (first | exact (Kd.S_reads' HO157.out).2.2 | (with_reducible refine Kd.C_alloc ?_ _) | (with_reducible refine Kd.C_drewN ?_ _) | (with_reducible refine Kd.C_drew ?_))); (case side3 => exact (Kd.S_reads' HO157.out).2.1); (case side4 => repeat (first | exact (Kd.S_reads' HO160.out).2.2 | (with_reducible refine Kd.C_alloc ?_ _) | (with_reducible refine Kd.C_drewN ?_ _) | (with_reducible refine Kd.C_drew ?_))); (case side5 => exact (Kd.S_reads' HO160.out).2.1); rintro e w16 ⟨Tt162, Xt162, v163, rfl, ho0, hb⟩; refine ⟨_, rfl, ?_⟩; have n0_ := Aside0.mk (Kd.S_elder' (by (with_reducible repeat (first | apply Kd.S_alloc | apply Kd.S_drewN | apply Kd.S_drew)); exact HO157.out) (Kd.S_base ho0) hb); have n1_ := Aside0.mk (Kd.S_elder' (by (with_reducible repeat (first | apply Kd.S_alloc | apply Kd.S_drewN | apply Kd.S_drew)); exact HO160.out) (Kd.S_base ho0) hb); have n2_ := Aside0.mk (Kd.S_lower (Kd.S_new' (Kd.S_new' ho0 (Kd.S_lt (by (with_reducible repeat (first | apply Kd.S_alloc | apply Kd.S_drewN | apply Kd.S_drew)); exact HO157.out))) (Kd.S_lt (by (with_reducible repeat (first | apply Kd.S_alloc | apply Kd.S_drewN | apply Kd.S_drew)); exact HO160.out))) (below_size bB)); have n3_ := Aside0.mk (below_step bB hb); clear HO157; clear HO160; clear HB; have HO157 := n0_; have HO160 := n1_; have HO164 := n2_; have HB := n3_; clear n0_ n1_ n2_ n3_; (try clear hb); (try clear hb2); (try clear hk); (try clear hi); (try clear ho0); (try simp only [errW_none, errW_some])))
     have n0_ := Aside0.mk (Kd.S_drew HO157.out)
     have n1_ := Aside0.mk (Kd.S_drew HO160.out)
     have n2_ := Aside0.mk (Kd.S_drew HO164.out)
     have n3_ := Aside0.mk (below_drew1 HB.out)
     clear HO157
     clear HO160
     clear HO164
     clear HB
     have HO157 := n0_
     have HO160 := n1_
     have HO164 := n2_
     have HB := n3_
     clear n0_ n1_ n2_ n3_
     obtain ⟨Ao18, co18, eo18⟩ := Kd.S_slice HO164.out
     (first | subst eo18 | (injection eo18 with f1_ f2_ f3_; have f4_ := f1_.symm; have f5_ := f3_.symm; clear f1_ f2_ f3_; subst f4_; subst f5_))
     refine start_ (n := 6) (S := fun w' => True) (ds := []) #[false, false, false, false, false, false] (by kernel_rfl) rfl rfl trivial (fun hHeld => ?_)
     generalize w16.drew = w17 at HO157 HO160 HO164 HB hHeld ⊢
     refine pure_ (i := 0) (N := some 24) (v := ?_) (a' := ?_) #[true, false, false, false, false, false] rfl rfl (by kernel_rfl) (fun _ _ _ h => h) (Or.inl ⟨by rfl, ?_⟩) ?_ ?_
     rotate_left
     ·intro w'
      go_simp
      with_reducible rfl
     rotate_left
     ·simp only [Act.put, List.setIfInBounds_toArray, List.set_cons_zero, List.set_cons_succ, i64_w, i32_w]
      rfl
     refine pure_ (i := 2) (N := some 26) (v := ?_) (a' := ?_) #[true, false, true, false, false, false] rfl rfl (by kernel_rfl) (fun _ _ _ h => h) (Or.inl ⟨by rfl, ?_⟩) ?_ ?_
     rotate_left
     ·intro w'
      go_simp
      with_reducible rfl
     rotate_left
     ·simp only [Act.put, List.setIfInBounds_toArray, List.set_cons_zero, List.set_cons_succ, i64_w, i32_w]
      rfl
     refine pure_ (i := 3) (N := some 27) (v := ?_) (a' := ?_) #[true, false, true, true, false, false] rfl rfl (by kernel_rfl) (fun _ _ _ h => h) (Or.inl ⟨by rfl, ?_⟩) ?_ ?_
     rotate_left
     ·intro w'
      go_simp
      with_reducible rfl
     rotate_left
     ·simp only [Act.put, List.setIfInBounds_toArray, List.set_cons_zero, List.set_cons_succ, i64_w, i32_w]
      rfl
     refine one_ (i := 1) (N := some 25) #[true, true, true, true, false, false] rfl rfl (by kernel_rfl) (by decide) (fun K hK => ?_)
     refine goes_ Tryd.func36 (by kernel_rfl) rfl #[.slice Ao18 t161.length co18] (by rfl) rfl rfl aV ?_
     with_reducible refine (impl_rows.calls kj2 _ _ t161 t165 _ ?side1 ?side2 A11.out).mono ?_
     (case side1 => repeat (first | exact (Kd.S_reads' HO164.out).2.2 | (with_reducible refine Kd.C_alloc ?_ _) | (with_reducible refine Kd.C_drewN ?_ _) | (with_reducible refine Kd.C_drew ?_)))
     (case side2 => exact (Kd.S_reads' HO164.out).2.1)
     rintro e w19 ⟨v166, rfl, ho0, hb⟩
     refine ⟨_, rfl, ?_⟩
     have n0_ := Aside0.mk (Kd.S_elder' (by (with_reducible repeat (first | apply Kd.S_alloc | apply Kd.S_drewN | apply Kd.S_drew)); exact HO157.out) (Kd.S_base ho0) hb)
     have n1_ := Aside0.mk (Kd.S_elder' (by (with_reducible repeat (first | apply Kd.S_alloc | apply Kd.S_drewN | apply Kd.S_drew)); exact HO160.out) (Kd.S_base ho0) hb)
     have n2_ := Aside0.mk (Kd.S_elder' (by (with_reducible repeat (first | apply Kd.S_alloc | apply Kd.S_drewN | apply Kd.S_drew)); exact HO164.out) (Kd.S_base ho0) hb)
     have n3_ := Aside0.mk (Kd.S_lower (Kd.S_new' (Kd.S_new' (Kd.S_new' ho0 (Kd.S_lt (by (with_reducible repeat (first | apply Kd.S_alloc | apply Kd.S_drewN | apply Kd.S_drew)); exact HO157.out))) (Kd.S_lt (by (with_reducible repeat (first | apply Kd.S_alloc | apply Kd.S_drewN | apply Kd.S_drew)); exact HO160.out))) (Kd.S_lt (by (with_reducible repeat (first | apply Kd.S_alloc | apply Kd.S_drewN | apply Kd.S_drew)); exact HO164.out))) (below_size bB))
     have n4_ := Aside0.mk (below_step bB hb)
     clear HO157
     clear HO160
     clear HO164
     clear HB
     have HO157 := n0_
     have HO160 := n1_
     have HO164 := n2_
     have HO167 := n3_
     have HB := n4_
     clear n0_ n1_ n2_ n3_ n4_
     (try clear hb)
     (try clear hb2)
     (try clear hk)
     (try clear hi)
     (try clear ho0)
     refine hK.out _ _ trivial (fun hHeld => ?_)
     clear hK K
     refine norm_ (a' := ?_) ?_ ?_
     rotate_left
     ·show Act.put _ (some 25) _ = _
      simp only [Act.put, List.setIfInBounds_toArray, List.set_cons_zero, List.set_cons_succ, i64_w, i32_w]
      rfl
     refine pure_ (i := 4) (N := some 4) (v := ?_) (a' := ?_) #[true, true, true, true, true, false] rfl rfl (by kernel_rfl) (fun _ _ _ h => h) (Or.inl ⟨by rfl, ?_⟩) ?_ ?_
     rotate_left
     ·intro w'
      go_simp
      with_reducible rfl
     rotate_left
     ·simp only [Act.put, List.setIfInBounds_toArray, List.set_cons_zero, List.set_cons_succ, i64_w, i32_w]
      rfl
     refine pure_ (i := 5) (N := some 5) (v := ?_) (a' := ?_) #[true, true, true, true, true, true] rfl rfl (by kernel_rfl) (fun _ _ _ h => h) (Or.inl ⟨by rfl, ?_⟩) ?_ ?_
     rotate_left
     ·intro w'
      go_simp
      with_reducible rfl
     rotate_left
     ·simp only [Act.put, List.setIfInBounds_toArray, List.set_cons_zero, List.set_cons_succ, i64_w, i32_w]
      rfl
     refine done_ (by kernel_rfl) ?_
     try go_wp2
     go_ret2
     exact ⟨_, by first | rfl | (simp [errW_none, errW_some] <;> rfl) | (simp [*, errW_none, errW_some] <;> rfl), by (with_reducible repeat (first | apply Kd.S_alloc | apply Kd.S_drewN | apply Kd.S_drew)); exact Kd.S_mono HO167.out (fun _ hk => trivial), bB⟩
    ·have H1 : (some (t165, false)) = some (r1, r2) := by rw [if_neg (show ¬ (some q168).isNone = true by simp)] at H; exact H
     clear H
     have H := H1
     clear H1
     try simp only [errW_none, errW_some]
     simp only [Option.some.injEq, Prod.mk.injEq] at H
     obtain ⟨rfl, rfl⟩ := H
     try go_wp2_with (first | ((with_reducible refine gate_callee (f := 36) rfl ?_); refine goesL_ (some 18) rfl rfl Tryd.func36 (by kernel_rfl) rfl #[.slice A0 l0.length c0] rfl aV ?_; (with_reducible refine (impl_rows.calls kj2 _ _ l0 t155 _ ?side1 ?side2 A8.out).mono ?_); (case side1 => repeat (first | exact (Kd.C_below HR0.out HB.out) | (with_reducible refine Kd.C_alloc ?_ _) | (with_reducible refine Kd.C_drewN ?_ _) | (with_reducible refine Kd.C_drew ?_))); (case side2 => exact HC0.out); rintro e w20 ⟨v156, rfl, ho0, hb⟩; refine ⟨_, rfl, ?_⟩; have n0_ := Aside0.mk (Kd.S_lower ho0 (below_size bB)); have n1_ := Aside0.mk (below_step bB hb); clear HB; have HO157 := n0_; have HB := n1_; clear n0_ n1_; (try clear hb); (try clear hb2); (try clear hk); (try clear hi); (try clear ho0)) | ((with_reducible refine gate_callee (f := 36) rfl ?_); refine goesL_ (some 20) rfl rfl Tryd.func36 (by kernel_rfl) rfl #[.slice A1 l1.length c1] rfl aV ?_; (with_reducible refine (impl_rows.calls kj2 _ _ l1 t158 _ ?side1 ?side2 A9.out).mono ?_); (case side1 => repeat (first | exact (Kd.C_below HR1.out HB.out) | (with_reducible refine Kd.C_alloc ?_ _) | (with_reducible refine Kd.C_drewN ?_ _) | (with_reducible refine Kd.C_drew ?_))); (case side2 => exact HC1.out); rintro e w21 ⟨v159, rfl, ho0, hb⟩; refine ⟨_, rfl, ?_⟩; have n0_ := Aside0.mk (Kd.S_elder' (by (with_reducible repeat (first | apply Kd.S_alloc | apply Kd.S_drewN | apply Kd.S_drew)); exact HO157.out) (Kd.S_base ho0) hb); have n1_ := Aside0.mk (Kd.S_lower (Kd.S_new' ho0 (Kd.S_lt (by (with_reducible repeat (first | apply Kd.S_alloc | apply Kd.S_drewN | apply Kd.S_drew)); exact HO157.out))) (below_size bB)); have n2_ := Aside0.mk (below_step bB hb); clear HO157; clear HB; have HO157 := n0_; have HO160 := n1_; have HB := n2_; clear n0_ n1_ n2_; (try clear hb); (try clear hb2); (try clear hk); (try clear hi); (try clear ho0); obtain ⟨Ao22, co22, eo22⟩ := Kd.S_slice HO157.out; subst eo22; obtain ⟨Ao23, co23, eo23⟩ := Kd.S_slice HO160.out; subst eo23) | ((with_reducible refine gate_callee (f := 39) rfl ?_); refine goesL_ (some 21) rfl rfl Tryd.func39 (by kernel_rfl) rfl #[.slice Ao22 t155.length co22, .slice Ao23 t158.length co23] rfl aV ?_; (with_reducible refine (reedsolomon_DoorTimes.calls kj2 _ _ t155 _ _ t158 t161 (some q168) _ ?side1 ?side2 ?side3 ?side4 ?side5 A10.out).mono ?_); (case side1 => exact TabOK.below HT.out bB); (case side2 => repeat (first | exact (Kd.S_reads' HO157.out).2.2 | (with_reducible refine Kd.C_alloc ?_ _) | (with_reducible refine Kd.C_drewN ?_ _) | (with_reducible refine Kd.C_drew ?_))); (case side3 => exact (Kd.S_reads' HO157.out).2.1); (case side4 => repeat (first | exact (Kd.S_reads' HO160.out).2.2 | (with_reducible refine Kd.C_alloc ?_ _) | (with_reducible refine Kd.C_drewN ?_ _) | (with_reducible refine Kd.C_drew ?_))); (case side5 => exact (Kd.S_reads' HO160.out).2.1); rintro e w24 ⟨Tt162, Xt162, v163, rfl, ho0, hb⟩; refine ⟨_, rfl, ?_⟩; have n0_ := Aside0.mk (Kd.S_elder' (by (with_reducible repeat (first | apply Kd.S_alloc | apply Kd.S_drewN | apply Kd.S_drew)); exact HO157.out) (Kd.S_base ho0) hb); have n1_ := Aside0.mk (Kd.S_elder' (by (with_reducible repeat (first | apply Kd.S_alloc | apply Kd.S_drewN | apply Kd.S_drew)); exact HO160.out) (Kd.S_base ho0) hb); have n2_ := Aside0.mk (Kd.S_lower (Kd.S_new' (Kd.S_new' ho0 (Kd.S_lt (by (with_reducible repeat (first | apply Kd.S_alloc | apply Kd.S_drewN | apply Kd.S_drew)); exact HO157.out))) (Kd.S_lt (by (with_reducible repeat (first | apply Kd.S_alloc | apply Kd.S_drewN | apply Kd.S_drew)); exact HO160.out))) (below_size bB)); have n3_ := Aside0.mk (below_step bB hb); clear HO157; clear HO160; clear HB; have HO157 := n0_; have HO160 := n1_; have HO164 := n2_; have HB := n3_; clear n0_ n1_ n2_ n3_; (try clear hb); (try clear hb2); (try clear hk); (try clear hi); (try clear ho0); (try simp only [errW_none, errW_some])))
     have n0_ := Aside0.mk (Kd.S_drew HO157.out)
     have n1_ := Aside0.mk (Kd.S_drew HO160.out)
     have n2_ := Aside0.mk (Kd.S_drew HO164.out)
     have n3_ := Aside0.mk (below_drew1 HB.out)
     clear HO157
     clear HO160
     clear HO164
     clear HB
     have HO157 := n0_
     have HO160 := n1_
     have HO164 := n2_
     have HB := n3_
     clear n0_ n1_ n2_ n3_
     obtain ⟨Ao26, co26, eo26⟩ := Kd.S_slice HO164.out
     (first | subst eo26 | (injection eo26 with f1_ f2_ f3_; have f4_ := f1_.symm; have f5_ := f3_.symm; clear f1_ f2_ f3_; subst f4_; subst f5_))
     refine start_ (n := 6) (S := fun w' => True) (ds := []) #[false, false, false, false, false, false] (by kernel_rfl) rfl rfl trivial (fun hHeld => ?_)
     generalize w24.drew = w25 at HO157 HO160 HO164 HB hHeld ⊢
     refine pure_ (i := 0) (N := some 24) (v := ?_) (a' := ?_) #[true, false, false, false, false, false] rfl rfl (by kernel_rfl) (fun _ _ _ h => h) (Or.inl ⟨by rfl, ?_⟩) ?_ ?_
     rotate_left
     ·intro w'
      go_simp
      with_reducible rfl
     rotate_left
     ·simp only [Act.put, List.setIfInBounds_toArray, List.set_cons_zero, List.set_cons_succ, i64_w, i32_w]
      rfl
     refine pure_ (i := 2) (N := some 26) (v := ?_) (a' := ?_) #[true, false, true, false, false, false] rfl rfl (by kernel_rfl) (fun _ _ _ h => h) (Or.inl ⟨by rfl, ?_⟩) ?_ ?_
     rotate_left
     ·intro w'
      go_simp
      with_reducible rfl
     rotate_left
     ·simp only [Act.put, List.setIfInBounds_toArray, List.set_cons_zero, List.set_cons_succ, i64_w, i32_w]
      rfl
     refine pure_ (i := 3) (N := some 27) (v := ?_) (a' := ?_) #[true, false, true, true, false, false] rfl rfl (by kernel_rfl) (fun _ _ _ h => h) (Or.inl ⟨by rfl, ?_⟩) ?_ ?_
     rotate_left
     ·intro w'
      go_simp
      with_reducible rfl
     rotate_left
     ·simp only [Act.put, List.setIfInBounds_toArray, List.set_cons_zero, List.set_cons_succ, i64_w, i32_w]
      rfl
     refine one_ (i := 1) (N := some 25) #[true, true, true, true, false, false] rfl rfl (by kernel_rfl) (by decide) (fun K hK => ?_)
     refine goes_ Tryd.func36 (by kernel_rfl) rfl #[.slice Ao26 t161.length co26] (by rfl) rfl rfl aV ?_
     with_reducible refine (impl_rows.calls kj2 _ _ t161 t165 _ ?side1 ?side2 A11.out).mono ?_
     (case side1 => repeat (first | exact (Kd.S_reads' HO164.out).2.2 | (with_reducible refine Kd.C_alloc ?_ _) | (with_reducible refine Kd.C_drewN ?_ _) | (with_reducible refine Kd.C_drew ?_)))
     (case side2 => exact (Kd.S_reads' HO164.out).2.1)
     rintro e w27 ⟨v166, rfl, ho0, hb⟩
     refine ⟨_, rfl, ?_⟩
     have n0_ := Aside0.mk (Kd.S_elder' (by (with_reducible repeat (first | apply Kd.S_alloc | apply Kd.S_drewN | apply Kd.S_drew)); exact HO157.out) (Kd.S_base ho0) hb)
     have n1_ := Aside0.mk (Kd.S_elder' (by (with_reducible repeat (first | apply Kd.S_alloc | apply Kd.S_drewN | apply Kd.S_drew)); exact HO160.out) (Kd.S_base ho0) hb)
     have n2_ := Aside0.mk (Kd.S_elder' (by (with_reducible repeat (first | apply Kd.S_alloc | apply Kd.S_drewN | apply Kd.S_drew)); exact HO164.out) (Kd.S_base ho0) hb)
     have n3_ := Aside0.mk (Kd.S_lower (Kd.S_new' (Kd.S_new' (Kd.S_new' ho0 (Kd.S_lt (by (with_reducible repeat (first | apply Kd.S_alloc | apply Kd.S_drewN | apply Kd.S_drew)); exact HO157.out))) (Kd.S_lt (by (with_reducible repeat (first | apply Kd.S_alloc | apply Kd.S_drewN | apply Kd.S_drew)); exact HO160.out))) (Kd.S_lt (by (with_reducible repeat (first | apply Kd.S_alloc | apply Kd.S_drewN | apply Kd.S_drew)); exact HO164.out))) (below_size bB))
     have n4_ := Aside0.mk (below_step bB hb)
     clear HO157
     clear HO160
     clear HO164
     clear HB
     have HO157 := n0_
     have HO160 := n1_
     have HO164 := n2_
     have HO167 := n3_
     have HB := n4_
     clear n0_ n1_ n2_ n3_ n4_
     (try clear hb)
     (try clear hb2)
     (try clear hk)
     (try clear hi)
     (try clear ho0)
     refine hK.out _ _ trivial (fun hHeld => ?_)
     clear hK K
     refine norm_ (a' := ?_) ?_ ?_
     rotate_left
     ·show Act.put _ (some 25) _ = _
      simp only [Act.put, List.setIfInBounds_toArray, List.set_cons_zero, List.set_cons_succ, i64_w, i32_w]
      rfl
     refine pure_ (i := 4) (N := some 4) (v := ?_) (a' := ?_) #[true, true, true, true, true, false] rfl rfl (by kernel_rfl) (fun _ _ _ h => h) (Or.inl ⟨by rfl, ?_⟩) ?_ ?_
     rotate_left
     ·intro w'
      go_simp
      with_reducible rfl
     rotate_left
     ·simp only [Act.put, List.setIfInBounds_toArray, List.set_cons_zero, List.set_cons_succ, i64_w, i32_w]
      rfl
     refine pure_ (i := 5) (N := some 5) (v := ?_) (a' := ?_) #[true, true, true, true, true, true] rfl rfl (by kernel_rfl) (fun _ _ _ h => h) (Or.inl ⟨by rfl, ?_⟩) ?_ ?_
     rotate_left
     ·intro w'
      go_simp
      with_reducible rfl
     rotate_left
     ·simp only [Act.put, List.setIfInBounds_toArray, List.set_cons_zero, List.set_cons_succ, i64_w, i32_w]
      rfl
     refine done_ (by kernel_rfl) ?_
     try go_wp2
     go_ret2
     exact ⟨_, by first | rfl | (simp [errW_none, errW_some] <;> rfl) | (simp [*, errW_none, errW_some] <;> rfl), by (with_reducible repeat (first | apply Kd.S_alloc | apply Kd.S_drewN | apply Kd.S_drew)); exact Kd.S_mono HO167.out (fun _ hk => trivial), bB⟩


/-! ### spec_Columns: function 23 -/
def spec_Columns.f (l0 : List (List Int)) : Option (Int) := if (l0.length : Int) = 0 then (some 0) else (if 0 < (l0.length : Int) then (some ((rd_L1 l0 0).length : Int)) else (none))
set_option maxHeartbeats 8000000 in
set_option maxRecDepth 100000 in
theorem spec_Columns.calls (A0 : Option Addr) (c0 : Nat) (l0 : List (List Int)) (r : Int) (w : World) (hr0 : Kd.C (Kd.slice 5 (Kd.int .u8)) w A0 l0.length l0) (hc0 : l0.length ≤ c0) (h : spec_Columns.f l0 = some r) :
  Calls Tryd.prog 23 #[.slice A0 l0.length c0] w fun e w' => e = .returned (.int .i64 r) ∧ Drawn0 w w' := by
 have HR0 := Aside0.mk hr0
 have HC0 := Aside0.mk hc0
 clear hr0 hc0
 have H : (if (l0.length : Int) = 0 then (some 0) else (if 0 < (l0.length : Int) then (some ((rd_L1 l0 0).length : Int)) else (none))) = some r := h
 clear h
 by_cases c2 : (l0.length : Int) = 0
 ·rw [if_pos c2] at H
  have c2b0 : ((l0.length : Int) == 0) = true := beq_iff_eq.mpr c2
  have c2b1 : ((l0.length : Int) != 0) = false := bne_eq_false_iff_eq.mpr c2
  clear c2
  obtain rfl := Option.some.inj H
  go_enter Tryd.func23, Tryd.ntmps23
  go_wp2
  go_ret
  exact ⟨by first | rfl | (simp; done) | (simp [*]; done), by repeat (first | exact Drawn0.refl _ | apply Drawn0.step)⟩
 ·rw [if_neg c2] at H
  have c2b0 : ((l0.length : Int) == 0) = false := beq_eq_false_iff_ne.mpr c2
  have c2b1 : ((l0.length : Int) != 0) = true := bne_iff_ne.mpr c2
  have c2b2 : ¬ (l0 = []) := fun h_ => c2 (by rw [h_]; rfl)
  by_cases c3 : 0 < (l0.length : Int)
  ·rw [if_pos c3] at H
   have c3b0 : decide (0 < (l0.length : Int)) = true := decide_eq_true c3
   have c3b1 : decide (0 < l0.length) = true := decide_eq_true (by omega)
   clear c3
   obtain rfl := Option.some.inj H
   have p169 : 0 ≤ (0 : Int) := (by omega)
   have q169 : 0 < (l0.length : Int) := dA
   obtain ⟨ad169, A169_0, c169_0, e169, hx169_0, hl169_0, hi169_0⟩ := at_L1 HR0.out 0 p169 q169
   cases e169
   have qi169 : (0 < l0.length) = True := eq_true (by omega)
   (try rw [show ((0 : Int)).toNat = 0 from rfl] at hx169_0)
   (try rw [Addr.add_zero'] at hx169_0)
   have HR169_0 := Aside0.mk hi169_0
   have HC169_0 := Aside0.mk hl169_0
   clear hi169_0 hl169_0
   replace p169 := eq_true p169
   replace q169 := eq_true q169
   go_enter Tryd.func23, Tryd.ntmps23
   go_wp2
   go_ret
   exact ⟨by first | rfl | (simp; done) | (simp [*]; done), by repeat (first | exact Drawn0.refl _ | apply Drawn0.step)⟩
  ·rw [if_neg c3] at H
   exact absurd H (by simp)


/-! ### spec_Rectangular: function 22 -/
def spec_Rectangular.l0 : Nat → List (List Int) → List (List Int) → Int → Int → Option (Bool)
 | 0, _, _, _, _ => none
 | k + 1, x0, x5, x6, x7 => if x7 < x6 then (if 0 ≤ x7 then (if x7 < (x5.length : Int) then ((spec_Columns.f x0).bind fun t171 => (if ((rd_L1 x5 x7).length : Int) = t171 then (spec_Rectangular.l0 k x0 x5 x6 (wrap64 (x7 + 1))) else (some false))) else (none)) else (none)) else ((spec_Columns.f x0).bind fun t172 => (some (decide (t172 > 0))))
def spec_Rectangular.f (k : Nat) (l0 : List (List Int)) : Option (Bool) := spec_Rectangular.l0 k l0 l0 (l0.length : Int) 0
theorem spec_Rectangular.mono_l : ∀ k, (∀ y0 y1 y2 y3, LeO (spec_Rectangular.l0 k y0 y1 y2 y3) (spec_Rectangular.l0 (k + 1) y0 y1 y2 y3))
 | 0 => fun _ _ _ _ r h => by simp [spec_Rectangular.l0] at h
 | k + 1 => by
  have ih0 := spec_Rectangular.mono_l k
  ·intro y0 y1 y2 y3
   unfold spec_Rectangular.l0
   repeat' first
   | (with_reducible exact ih0 _ _ _ _)
   | (with_reducible exact LeO.refl _)
   | (with_reducible exact LeO.none _)
   | (with_reducible refine LeO.ite ?_ ?_)
   | (with_reducible refine LeO.bind ?_ (fun _ => ?_))
   | exact ih0 _ _ _ _
   | exact LeO.none _
   | refine LeO.ite ?_ ?_
   | refine LeO.bind ?_ (fun _ => ?_)
theorem spec_Rectangular.mono : ∀ a0 k, LeO (spec_Rectangular.f k a0) (spec_Rectangular.f (k + 1) a0) := by
 intro a0 k
 have ih0 := spec_Rectangular.mono_l k
 unfold spec_Rectangular.f
 repeat' first
   | (with_reducible exact ih0 _ _ _ _)
   | (with_reducible exact LeO.refl _)
   | (with_reducible exact LeO.none _)
   | (with_reducible refine LeO.ite ?_ ?_)
   | (with_reducible refine LeO.bind ?_ (fun _ => ?_))
   | exact ih0 _ _ _ _
   | exact LeO.none _
   | refine LeO.ite ?_ ?_
   | refine LeO.bind ?_ (fun _ => ?_)
set_option maxHeartbeats 8000000 in
set_option maxRecDepth 100000 in
theorem spec_Rectangular.calls (k : Nat) (A0 : Option Addr) (c0 : Nat) (l0 : List (List Int)) (r : Bool) (w : World) (hr0 : Kd.C (Kd.slice 5 (Kd.int .u8)) w A0 l0.length l0) (hc0 : l0.length ≤ c0) (h : spec_Rectangular.f k l0 = some r) :
  Calls Tryd.prog 22 #[.slice A0 l0.length c0] w fun e w' => e = .returned (.bool r) ∧ Drawn0 w w' := by
 have HR0 := Aside0.mk hr0
 have HC0 := Aside0.mk hc0
 clear hr0 hc0
 have H : (spec_Rectangular.l0 k l0 l0 (l0.length : Int) 0) = some r := h
 clear h
 have H' := Aside0.mk H
 clear H
 go_enter Tryd.func22, Tryd.ntmps22
 go_wp2
 go_loopg [7] k (fun kq v7 w' => ∃ (x7_1 : Int), v7 = .int .i64 x7_1 ∧ Aside0 (spec_Rectangular.l0 kq l0 l0 (l0.length : Int) x7_1 = some r) ∧ Aside0 (kq ≤ k) ∧ Drawn0 w w')
 case atStart => exact ⟨(0), (by first | rfl | (simp; done) | (simp [*]; done)), H', ⟨Nat.le_refl _⟩, by repeat (first | exact Drawn0.refl _ | apply Drawn0.step)⟩
 case round =>
  clear H'
  obtain ⟨x7_1, rfl, HA, HK1, ⟨m1, rfl⟩⟩ := hrel
  cases gk with
  | zero => exact absurd HA.out (by simp [spec_Rectangular.l0])
  | succ k1 =>
   have H := HA.out
   clear HA
   simp only [spec_Rectangular.l0] at H
   by_cases c2 : x7_1 < (l0.length : Int)
   ·rw [if_pos c2] at H
    have c2b0 : decide (x7_1 < (l0.length : Int)) = true := decide_eq_true c2
    clear c2
    by_cases c3 : 0 ≤ x7_1
    ·rw [if_pos c3] at H
     have c3b0 : decide (0 ≤ x7_1) = true := decide_eq_true c3
     clear c3
     by_cases c4 : x7_1 < (l0.length : Int)
     ·rw [if_pos c4] at H
      have c4b0 : decide (x7_1 < (l0.length : Int)) = true := decide_eq_true c4
      clear c4
      replace H := Option.bind_eq_some_iff.mp H
      obtain ⟨t171, A50, H⟩ := H
      replace H : (if ((rd_L1 l0 x7_1).length : Int) = t171 then (spec_Rectangular.l0 k1 l0 l0 (l0.length : Int) (wrap64 (x7_1 + 1))) else (some false)) = some r := H
      have A5 := Aside0.mk A50
      clear A50
      by_cases c6 : ((rd_L1 l0 x7_1).length : Int) = t171
      ·rw [if_pos c6] at H
       have c6b0 : (((rd_L1 l0 x7_1).length : Int) == t171) = true := beq_iff_eq.mpr c6
       have c6b1 : (((rd_L1 l0 x7_1).length : Int) != t171) = false := bne_eq_false_iff_eq.mpr c6
       clear c6
       have H' := Aside0.mk H
       clear H
       have p170 : 0 ≤ (x7_1 : Int) := dA
       have q170 : x7_1 < (l0.length : Int) := dA
       obtain ⟨ad170, A170_0, c170_0, e170, hx170_0, hl170_0, hi170_0⟩ := at_L1 HR0.out x7_1 p170 q170
       cases e170
       have HR170_0 := Aside0.mk hi170_0
       have HC170_0 := Aside0.mk hl170_0
       clear hi170_0 hl170_0
       replace p170 := eq_true p170
       replace q170 := eq_true q170
       go_wp2_with (first | ((with_reducible refine gate_callee (f := 23) rfl ?_); refine goesL_ (some 14) rfl rfl Tryd.func23 (by kernel_rfl) rfl #[.slice (some ad170) l0.length c0] rfl aV ?_; (with_reducible refine (spec_Columns.calls _ _ l0 t171 _ ?side1 ?side2 A5.out).mono ?_); (case side1 => repeat (first | exact HR0.out | (with_reducible refine Kd.C_alloc ?_ _) | (with_reducible refine Kd.C_drewN ?_ _) | (with_reducible refine Kd.C_drew ?_))); (case side2 => exact HC0.out); rintro e w' ⟨rfl, ⟨nd, rfl⟩⟩; refine ⟨_, rfl, ?_⟩))
       go_roundg k1
       case measure => have := HK1.out; omega
       case rel => exact ⟨(wrap64 (x7_1 + 1)), (by first | rfl | (simp; done) | (simp [*]; done)), H', ⟨by have := HK1.out; omega⟩, by repeat (first | exact Drawn0.refl _ | apply Drawn0.step)⟩
      ·rw [if_neg c6] at H
       have c6b0 : (((rd_L1 l0 x7_1).length : Int) == t171) = false := beq_eq_false_iff_ne.mpr c6
       have c6b1 : (((rd_L1 l0 x7_1).length : Int) != t171) = true := bne_iff_ne.mpr c6
       obtain rfl := Option.some.inj H
       have p170 : 0 ≤ (x7_1 : Int) := dA
       have q170 : x7_1 < (l0.length : Int) := dA
       obtain ⟨ad170, A170_0, c170_0, e170, hx170_0, hl170_0, hi170_0⟩ := at_L1 HR0.out x7_1 p170 q170
       cases e170
       have HR170_0 := Aside0.mk hi170_0
       have HC170_0 := Aside0.mk hl170_0
       clear hi170_0 hl170_0
       replace p170 := eq_true p170
       replace q170 := eq_true q170
       go_wp2_with (first | ((with_reducible refine gate_callee (f := 23) rfl ?_); refine goesL_ (some 14) rfl rfl Tryd.func23 (by kernel_rfl) rfl #[.slice (some ad170) l0.length c0] rfl aV ?_; (with_reducible refine (spec_Columns.calls _ _ l0 t171 _ ?side1 ?side2 A5.out).mono ?_); (case side1 => repeat (first | exact HR0.out | (with_reducible refine Kd.C_alloc ?_ _) | (with_reducible refine Kd.C_drewN ?_ _) | (with_reducible refine Kd.C_drew ?_))); (case side2 => exact HC0.out); rintro e w' ⟨rfl, ⟨nd, rfl⟩⟩; refine ⟨_, rfl, ?_⟩))
       go_ret
       exact ⟨by first | rfl | (simp; done) | (simp [*]; done), by repeat (first | exact Drawn0.refl _ | apply Drawn0.step)⟩
     ·rw [if_neg c4] at H
      exact absurd H (by simp)
    ·rw [if_neg c3] at H
     exact absurd H (by simp)
   ·rw [if_neg c2] at H
    have c2b0 : decide (x7_1 < (l0.length : Int)) = false := decide_eq_false c2
    clear c2
    replace H := Option.bind_eq_some_iff.mp H
    obtain ⟨t172, A70, H⟩ := H
    replace H : (some (decide (t172 > 0))) = some r := H
    have A7 := Aside0.mk A70
    clear A70
    obtain rfl := Option.some.inj H
    go_wp2_with (first | ((with_reducible refine gate_callee (f := 23) rfl ?_); refine goesL_ (some 18) rfl rfl Tryd.func23 (by kernel_rfl) rfl #[.slice A0 l0.length c0] rfl aV ?_; (with_reducible refine (spec_Columns.calls _ _ l0 t172 _ ?side1 ?side2 A7.out).mono ?_); (case side1 => repeat (first | exact HR0.out | (with_reducible refine Kd.C_alloc ?_ _) | (with_reducible refine Kd.C_drewN ?_ _) | (with_reducible refine Kd.C_drew ?_))); (case side2 => exact HC0.out); rintro e w' ⟨rfl, ⟨nd, rfl⟩⟩; refine ⟨_, rfl, ?_⟩))
    go_ret
    exact ⟨by first | rfl | (simp; done) | (simp [*]; done), by repeat (first | exact Drawn0.refl _ | apply Drawn0.step)⟩


/-! ### reedsolomon_identityMatrix: function 49 -/
def reedsolomon_identityMatrix.l0 : Nat → List (List Int) → Int → Int → Option ((List (List Int)) × Option Int)
 | 0, _, _, _ => none
 | k + 1, x4, x17, x18 => if x18 < x17 then (if 0 ≤ x18 then (if x18 < (x4.length : Int) then (if x18 < ((rd_L1 x4 x18).length : Int) then (reedsolomon_identityMatrix.l0 k (x4.set (x18 : Int).toNat ((rd_L1 x4 x18).set (x18 : Int).toNat 1)) x17 (wrap64 (x18 + 1))) else (none)) else (none)) else (none)) else (some (x4, none))
def reedsolomon_identityMatrix.f (k : Nat) (a0 : Int) : Option ((List (List Int)) × Option Int) := (reedsolomon_newMatrix.f k a0 a0).bind fun bt173 => (if bt173.2.isNone = true then (reedsolomon_identityMatrix.l0 k bt173.1 (bt173.1.length : Int) 0) else (some (([] : List (List Int)), some (bt173.2.getD 0))))
theorem reedsolomon_identityMatrix.mono_l : ∀ k, (∀ y0 y1 y2, LeO (reedsolomon_identityMatrix.l0 k y0 y1 y2) (reedsolomon_identityMatrix.l0 (k + 1) y0 y1 y2))
 | 0 => fun _ _ _ r h => by simp [reedsolomon_identityMatrix.l0] at h
 | k + 1 => by
  have ih0 := reedsolomon_identityMatrix.mono_l k
  ·intro y0 y1 y2
   unfold reedsolomon_identityMatrix.l0
   repeat' first
   | (with_reducible exact ih0 _ _ _)
   | (with_reducible exact reedsolomon_newMatrix.mono _ _ _)
   | (with_reducible exact LeO.refl _)
   | (with_reducible exact LeO.none _)
   | (with_reducible refine LeO.ite ?_ ?_)
   | (with_reducible refine LeO.bind ?_ (fun _ => ?_))
   | exact ih0 _ _ _
   | exact reedsolomon_newMatrix.mono _ _ _
   | exact LeO.none _
   | refine LeO.ite ?_ ?_
   | refine LeO.bind ?_ (fun _ => ?_)
theorem reedsolomon_identityMatrix.mono : ∀ a0 k, LeO (reedsolomon_identityMatrix.f k a0) (reedsolomon_identityMatrix.f (k + 1) a0) := by
 intro a0 k
 have ih0 := reedsolomon_identityMatrix.mono_l k
 unfold reedsolomon_identityMatrix.f
 repeat' first
   | (with_reducible exact ih0 _ _ _)
   | (with_reducible exact reedsolomon_newMatrix.mono _ _ _)
   | (with_reducible exact LeO.refl _)
   | (with_reducible exact LeO.none _)
   | (with_reducible refine LeO.ite ?_ ?_)
   | (with_reducible refine LeO.bind ?_ (fun _ => ?_))
   | exact ih0 _ _ _
   | exact reedsolomon_newMatrix.mono _ _ _
   | exact LeO.none _
   | refine LeO.ite ?_ ?_
   | refine LeO.bind ?_ (fun _ => ?_)
set_option maxHeartbeats 8000000 in
set_option maxRecDepth 100000 in
theorem reedsolomon_identityMatrix.calls (k : Nat) (a0 : Int) (r1 : List (List Int)) (r2 : Option Int) (w : World) (hT : TabOK w) (h : reedsolomon_identityMatrix.f k a0 = some (r1, r2)) :
  Calls Tryd.prog 49 #[.int .i64 a0] w fun e w' => ∃ (T_ : Int → TypeId) (X_ : Int → Value), ∃ v0_ : Value, e = .returned (.tuple #[v0_, errW T_ X_ r2]) ∧ Kd.S (Kd.slice 5 (Kd.int .u8)) 22 w' w.heap.size (fun _ => True) v0_ r1 ∧ Below w.heap.size w w' := by
 have hu60 := Tryd.underlying60
 have HT := Aside0.mk hT
 clear hT
 have HB := Aside0.mk (Below.refl w.heap.size w)
 have H : ((reedsolomon_newMatrix.f k a0 a0).bind fun bt173 => (if bt173.2.isNone = true then (reedsolomon_identityMatrix.l0 k bt173.1 (bt173.1.length : Int) 0) else (some (([] : List (List Int)), some (bt173.2.getD 0))))) = some (r1, r2) := h
 clear h
 replace H := Option.bind_eq_some_iff.mp H
 obtain ⟨⟨t173, t174⟩, A20, H⟩ := H
 replace H : (if t174.isNone = true then (reedsolomon_identityMatrix.l0 k t173 (t173.length : Int) 0) else (some (([] : List (List Int)), some (t174.getD 0)))) = some (r1, r2) := H
 have A2 := Aside0.mk A20
 clear A20
 rcases t174 with _ | q177
 ·have H1 : (reedsolomon_identityMatrix.l0 k t173 (t173.length : Int) 0) = some (r1, r2) := by rw [if_pos (show (none : Option Int).isNone = true by rfl)] at H; exact H
  clear H
  have H := H1
  clear H1
  try simp only [errW_none, errW_some]
  have H' := Aside0.mk H
  clear H
  go_enter Tryd.func49, Tryd.ntmps49
  go_wp2_with (first | ((with_reducible refine gate_callee (f := 57) rfl ?_); refine goesL_ (some 10) rfl rfl Tryd.func57 (by kernel_rfl) rfl #[.int .i64 a0, .int .i64 a0] rfl aV ?_; (with_reducible refine (reedsolomon_newMatrix.calls k a0 a0 t173 none _ ?side1 A2.out).mono ?_); (case side1 => exact TabOK.below HT.out bB); rintro e w3 ⟨Tt174, Xt174, v175, rfl, ho0, hb⟩; refine ⟨_, rfl, ?_⟩; have n0_ := Aside0.mk (Kd.S_lower ho0 (below_size bB)); have n1_ := Aside0.mk (below_step bB hb); clear HB; have HO176 := n0_; have HB := n1_; clear n0_ n1_; (try clear hb); (try clear hb2); (try clear hk); (try clear hi); (try clear ho0); (try simp only [errW_none, errW_some]); obtain ⟨Ao4, co4, eo4⟩ := Kd.S_slice HO176.out; subst eo4))
  go_loopg [18] k (fun kq v18 w' => ∃ (x4_1 : List (List Int)) (x18_1 : Int), v18 = .int .i64 x18_1 ∧ Aside0 (reedsolomon_identityMatrix.l0 kq x4_1 (t173.length : Int) x18_1 = some (r1, r2)) ∧ Aside0 (kq ≤ k) ∧ Aside0 (Kd.S (Kd.slice 5 (Kd.int .u8)) 22 w' w.heap.size (fun _ => True) (.slice Ao4 t173.length co4) x4_1) ∧ Aside0 (Below w.heap.size w w'))
  case atStart => exact ⟨(t173), (0), (by first | rfl | (simp; done) | (simp [*]; done)), H', ⟨Nat.le_refl _⟩, ⟨by (with_reducible repeat (first | apply Kd.S_alloc | apply Kd.S_drewN | apply Kd.S_drew)); exact HO176.out⟩, ⟨bB⟩⟩
  case round =>
   clear H'
   try clear q1
   try clear p2
   try clear c4
   try clear q177
   obtain ⟨x4_1, x18_1, rfl, HA, HK1, HO_4, HB⟩ := hrel
   have hl4_1 := (Kd.S_reads' HO_4.out).1
   rw [hl4_1] at HO_4
   (try simp only [hl4_1])
   cases gk with
   | zero => exact absurd HA.out (by simp [reedsolomon_identityMatrix.l0])
   | succ k1 =>
    have H := HA.out
    clear HA
    simp only [reedsolomon_identityMatrix.l0] at H
    by_cases c5 : x18_1 < (t173.length : Int)
    ·rw [if_pos c5] at H
     have c5b0 : decide (x18_1 < (t173.length : Int)) = true := decide_eq_true c5
     (try (have c5b0hl4_1 := c5b0; rw [hl4_1] at c5b0hl4_1))
     clear c5
     by_cases c6 : 0 ≤ x18_1
     ·rw [if_pos c6] at H
      have c6b0 : decide (0 ≤ x18_1) = true := decide_eq_true c6
      clear c6
      by_cases c7 : x18_1 < (x4_1.length : Int)
      ·rw [if_pos c7] at H
       have c7b0 : decide (x18_1 < (x4_1.length : Int)) = true := decide_eq_true c7
       (try (have c7b0hl4_1 := c7b0; rw [hl4_1] at c7b0hl4_1))
       clear c7
       by_cases c8 : x18_1 < ((rd_L1 x4_1 x18_1).length : Int)
       ·rw [if_pos c8] at H
        have c8b0 : decide (x18_1 < ((rd_L1 x4_1 x18_1).length : Int)) = true := decide_eq_true c8
        (try (have c8b0hl4_1 := c8b0; rw [hl4_1] at c8b0hl4_1))
        clear c8
        obtain ⟨y179, hy179⟩ : ∃ y_ : List Int, y_ = ((rd_L1 x4_1 x18_1).set (x18_1 : Int).toNat 1) := ⟨_, rfl⟩
        replace H : (reedsolomon_identityMatrix.l0 k1 (x4_1.set (x18_1 : Int).toNat y179) (t173.length : Int) (wrap64 (x18_1 + 1))) = some (r1, r2) := by first | (rw [hy179]; with_reducible exact H) | (have H2_ := (Option.bind_some _ _).symm.trans H; rw [hy179]; with_reducible exact H2_) | (have H2_ := (Option.bind_some _ _).symm.trans H; with_reducible exact H2_) | with_reducible exact H | (rw [hy179]; exact H) | exact H
        have Ny179 := Aside0.mk hy179
        clear hy179
        obtain ⟨y181, hy181⟩ : ∃ y_ : List (List Int), y_ = (x4_1.set (x18_1 : Int).toNat y179) := ⟨_, rfl⟩
        replace H : (reedsolomon_identityMatrix.l0 k1 y181 (t173.length : Int) (wrap64 (x18_1 + 1))) = some (r1, r2) := by first | (rw [hy181]; with_reducible exact H) | (have H2_ := (Option.bind_some _ _).symm.trans H; rw [hy181]; with_reducible exact H2_) | (have H2_ := (Option.bind_some _ _).symm.trans H; with_reducible exact H2_) | with_reducible exact H | (rw [hy181]; exact H) | exact H
        have Ny181 := Aside0.mk hy181
        clear hy181
        have H' := Aside0.mk H
        clear H
        have p178 : 0 ≤ (x18_1 : Int) := dA
        have q178 : x18_1 < (x4_1.length : Int) := dA
        obtain ⟨ad178, A178_0, c178_0, e178, hx178_0, hl178_0, hi178_0⟩ := at_L1 (Kd.S_reads' HO_4.out).2.2 x18_1 p178 q178
        cases e178
        obtain ⟨ce178, hce178, hMe178, hcc178⟩ := Kd.S_get HO_4.out [] x18_1 p178 (by first | exact q178 | exact dA | (have e_ := (Kd.S_reads' HO_4.out).1; omega))
        obtain ⟨ve178_0, rfl, ge178_0⟩ := hMe178
        have hv178_0 := hcc178 0 _ rfl
        rw [Nat.add_zero, show ((Kd.slice 5 (Kd.int .u8))).sz = 1 from rfl, Nat.mul_one] at hv178_0
        replace hv178_0 := Option.some.inj (hv178_0.symm.trans hx178_0)
        rw [hv178_0] at ge178_0
        have HL178_0 := Aside0.mk (show Kd.R (Kd.int .u8) 5 _ _ _ _ (rd_L1 x4_1 x18_1) from ge178_0)
        clear hv178_0 ge178_0
        have HX178_0 := Aside0.mk hx178_0
        clear hcc178 hce178
        have HR178_0 := Aside0.mk hi178_0
        have HC178_0 := Aside0.mk hl178_0
        clear hi178_0 hl178_0
        replace p178 := eq_true p178
        replace q178 := eq_true q178
        have p9 : 0 ≤ (x18_1 : Int) := dA
        have q9 : (x18_1 : Int) < (((rd_L1 x4_1 x18_1).length : Int) : Int) := dA
        obtain ⟨go9, co9, eo9, gb9, gl9, cl9, HG9⟩ := Kd.R_form HL178_0.out (by omega)
        (first | cases eo9 | (injection eo9 with ea_ en_ ec_; (first | subst ea_ | (injection ea_ with ea_; subst ea_)); subst ec_; clear en_))
        have GB9 := Aside0.mk gb9
        have GG9 := Aside0.mk HG9
        clear gb9 gl9 HG9
        obtain ⟨hx9_0, hf9_0⟩ := Kd.R_celln 0 HL178_0.out (x18_1 : Int) p9 q9
        replace p9 := eq_true p9
        replace q9 := eq_true q9
        have hq10 : (x18_1 : Int) < (x4_1.length : Int) := (by have h_ : (x18_1 : Int) < ((x4_1.length : Int) : Int) := dA; first | exact h_ | (have e_ := (Kd.S_reads' HO_4.out).1; omega) | simpa only [List.length_set, List.length_set] using h_)
        obtain ⟨oki10, ce10, hcl10, hM10, hcc10, hok10, hbk10⟩ := Kd.S_borrow HO_4.out [] (x18_1 : Int) dA hq10
        obtain ⟨ve10_0, rfl, ge10_0⟩ := hM10
        have hv10 := hcc10 0 _ rfl
        rw [Nat.add_zero, show ((Kd.slice 5 (Kd.int .u8))).sz = 1 from rfl, Nat.mul_one] at hv10
        replace hv10 := Option.some.inj (hv10.symm.trans HX178_0.out)
        subst hv10
        clear hcc10 hcl10
        replace ge10_0 := (show Kd.R (Kd.int .u8) 5 _ _ _ _ (rd_L1 x4_1 x18_1) from ge10_0)
        have HP10 := Kd.R_putg ge10_0 (x18_1 : Int) 1
        go_wp2_with (first | ((with_reducible refine gate_store (t := 5) (p := 26) rfl ?_); refine store_event (t := 5) (p := 26) (v := ?vo_w11) (w1 := (wr.setCell ⟨go9, (x18_1 : Int).toNat, none⟩ (.int .u8 1))) ?hg ?ho ?hn ?hr ?_; (case ho => rfl); (case hg => rfl); (case hn => rfl); (case hr => first | (go_simp; done) | (go_simp; rfl)); intro w11 hw; have hg : wr.grownBy w11 (some go9) := (by rw [hw]; exact HP10.2); have hz_ : Kd.R (Kd.int .u8) 5 w11 w.heap.size oki10 (.slice (some ⟨go9, 0, none⟩) (rd_L1 x4_1 x18_1).length c178_0) y179 := (by rw [hw, Ny179.out]; exact HP10.1); have hp_ : Kd.S (Kd.slice 5 (Kd.int .u8)) 22 w11 w.heap.size (fun _ => True) (.slice (some ad178) x4_1.length co4) y181 := (by rw [Ny181.out]; exact hbk10 hg (fun k_ e_ => by injection e_ with e_; subst e_; exact ge10_0.1 _ rfl) (Kd.M_row hz_)); have hm_ := Kd.R_mono hz_ hok10; clear HP10 hbk10; have n0_ := Aside0.mk (hp_); have n1_ := Aside0.mk ((by rw [hw]; exact below_set (HB.out) GB9.out : Below w.heap.size w w11)); have n2_ := Aside0.mk (hm_); have n3_ := Aside0.mk ((Kd.R_reads' hm_).2.1); clear HO_4; clear HB; clear HL178_0; have HO_4 := n0_; have HB := n1_; have HL182 := n2_; have HC180 := n3_; clear n0_ n1_ n2_ n3_; clear hg hw hp_ hz_ hm_ hok10))
        (try simp only [← hl4_1])
        go_roundg k1
        case measure => have := HK1.out; omega
        case rel => exact ⟨(y181), (wrap64 (x18_1 + 1)), (by first | rfl | (simp; done) | (simp [*]; done)), H', ⟨by have := HK1.out; omega⟩, ⟨by (try simp only [hl4_1]); (with_reducible repeat (first | apply Kd.S_alloc | apply Kd.S_drewN | apply Kd.S_drew)); exact HO_4.out⟩, ⟨bB⟩⟩
       ·rw [if_neg c8] at H
        exact absurd H (by simp)
      ·rw [if_neg c7] at H
       exact absurd H (by simp)
     ·rw [if_neg c6] at H
      exact absurd H (by simp)
    ·rw [if_neg c5] at H
     have c5b0 : decide (x18_1 < (t173.length : Int)) = false := decide_eq_false c5
     (try (have c5b0hl4_1 := c5b0; rw [hl4_1] at c5b0hl4_1))
     clear c5
     simp only [Option.some.injEq, Prod.mk.injEq] at H
     obtain ⟨rfl, rfl⟩ := H
     go_wp2
     go_ret2
     exact ⟨(fun _ => 0), (fun _ => .nilIface), _, by first | rfl | (simp [errW_none, errW_some] <;> rfl) | (simp [*, errW_none, errW_some] <;> rfl), by (with_reducible repeat (first | apply Kd.S_alloc | apply Kd.S_drewN | apply Kd.S_drew)); exact HO_4.out, bB⟩
 ·have H1 : (some (([] : List (List Int)), some q177)) = some (r1, r2) := by rw [if_neg (show ¬ (some q177).isNone = true by simp)] at H; exact H
  clear H
  have H := H1
  clear H1
  try simp only [errW_none, errW_some]
  simp only [Option.some.injEq, Prod.mk.injEq] at H
  obtain ⟨rfl, rfl⟩ := H
  go_enter Tryd.func49, Tryd.ntmps49
  go_wp2_with (first | ((with_reducible refine gate_callee (f := 57) rfl ?_); refine goesL_ (some 10) rfl rfl Tryd.func57 (by kernel_rfl) rfl #[.int .i64 a0, .int .i64 a0] rfl aV ?_; (with_reducible refine (reedsolomon_newMatrix.calls k a0 a0 t173 (some q177) _ ?side1 A2.out).mono ?_); (case side1 => exact TabOK.below HT.out bB); rintro e w12 ⟨Tt174, Xt174, v175, rfl, ho0, hb⟩; refine ⟨_, rfl, ?_⟩; have n0_ := Aside0.mk (Kd.S_lower ho0 (below_size bB)); have n1_ := Aside0.mk (below_step bB hb); clear HB; have HO176 := n0_; have HB := n1_; clear n0_ n1_; (try clear hb); (try clear hb2); (try clear hk); (try clear hi); (try clear ho0); (try simp only [errW_none, errW_some])))
  go_ret2
  exact ⟨Tt174, Xt174, (.slice none 0 0), by first | rfl | (simp [errW_none, errW_some] <;> rfl) | (simp [*, errW_none, errW_some] <;> rfl), by first | exact Kd.V_nil _ _ _ _ _ | exact Kd.R_nil _ _ _ _ _ | exact Kd.S_nil _ _ _ _ _ | exact Kd.N_nil _ _ _ _ _ | exact Kd.Q_nil _ _ _ _ _, bB⟩


/-! ### reedsolomon_matrix_IsSquare: function 55 -/
def reedsolomon_matrix_IsSquare.f (l0 : List (List Int)) : Option (Bool) := if 0 < (l0.length : Int) then (some ((l0.length : Int) == ((rd_L1 l0 0).length : Int))) else (none)
set_option maxHeartbeats 8000000 in
set_option maxRecDepth 100000 in
theorem reedsolomon_matrix_IsSquare.calls (A0 : Option Addr) (c0 : Nat) (l0 : List (List Int)) (r : Bool) (w : World) (hr0 : Kd.C (Kd.slice 5 (Kd.int .u8)) w A0 l0.length l0) (hc0 : l0.length ≤ c0) (h : reedsolomon_matrix_IsSquare.f l0 = some r) :
  Calls Tryd.prog 55 #[.slice A0 l0.length c0] w fun e w' => e = .returned (.bool r) ∧ Drawn0 w w' := by
 have HR0 := Aside0.mk hr0
 have HC0 := Aside0.mk hc0
 clear hr0 hc0
 have H : (if 0 < (l0.length : Int) then (some ((l0.length : Int) == ((rd_L1 l0 0).length : Int))) else (none)) = some r := h
 clear h
 by_cases c2 : 0 < (l0.length : Int)
 ·rw [if_pos c2] at H
  have c2b0 : decide (0 < (l0.length : Int)) = true := decide_eq_true c2
  have c2b1 : decide (0 < l0.length) = true := decide_eq_true (by omega)
  clear c2
  obtain rfl := Option.some.inj H
  have p183 : 0 ≤ (0 : Int) := (by omega)
  have q183 : 0 < (l0.length : Int) := dA
  obtain ⟨ad183, A183_0, c183_0, e183, hx183_0, hl183_0, hi183_0⟩ := at_L1 HR0.out 0 p183 q183
  cases e183
  have qi183 : (0 < l0.length) = True := eq_true (by omega)
  (try rw [show ((0 : Int)).toNat = 0 from rfl] at hx183_0)
  (try rw [Addr.add_zero'] at hx183_0)
  have HR183_0 := Aside0.mk hi183_0
  have HC183_0 := Aside0.mk hl183_0
  clear hi183_0 hl183_0
  replace p183 := eq_true p183
  replace q183 := eq_true q183
  go_enter Tryd.func55, Tryd.ntmps55
  go_wp2
  go_ret
  exact ⟨by first | rfl | (simp; done) | (simp [*]; done), by repeat (first | exact Drawn0.refl _ | apply Drawn0.step)⟩
 ·rw [if_neg c2] at H
  exact absurd H (by simp)

end Go.Proofs.YtipbhclpeogcmaaDoor.M

