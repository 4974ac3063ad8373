-- Written by a program of ours (wip/xp) out of the translation; Lean checks it.
import Derived.Test.YtkmdkmlgahfcpaaProg
import Derived.Below
import Derived.Deep.Draws
import Derived.Deep.AppendLies
import Derived.Maps.AppendAt
import Derived.OwnWalk
import Derived.Laws.BytesArg
import Derived.Laws.MakeOwn
import Derived.Laws.OwnMore
import Derived.Deep.OwnRows
import Derived.Tactics
import Derived.Lib.ConvBytes
import Derived.Laws.Slices
import Derived.WalkKit
import Derived.KernelRfl
import Derived.RowKit3
import Derived.Deep.LoopGhost
import Derived.Deep.QuietTactic
import Derived.BigQuiet
import Derived.WideLaws
import Derived.Deep.DeepCutAuto
import Derived.Deep.CutBlock
import Derived.Deep.RegionHeld3
import Derived.Laws.Rows
import Derived.Lib.AppendStr
import Derived.ArgAppend
import Derived.Laws.IdiomCopy
import Derived.OrdersHeld
import Derived.Laws.BitsLemmas
import Derived.RowKit
import Derived.Test.YtkmdkmlgahfcpaaShelf
import Derived.Test.YtkmdkmlgahfcpaaOnes
import Derived.Test.YtkmdkmlgahfcpaaInv3
import Derived.Test.YtkmdkmlgahfcpaaErrV
import Derived.Handy
import Derived.Test.YtkmdkmlgahfcpaaWWords
import Derived.Test.YtkmdkmlgahfcpaaWLast
import Derived.Test.YtkmdkmlgahfcpaaWTab
import Derived.Test.YtkmdkmlgahfcpaaWFour
import Derived.Test.YtkmdkmlgahfcpaaWQPut
import Derived.Test.YtkmdkmlgahfcpaaWApart
import Derived.Test.YtkmdkmlgahfcpaaWArr
import Derived.Test.YtkmdkmlgahfcpaaWZeros
import Derived.Test.YtkmdkmlgahfcpaaWFoot
import Derived.Test.YtkmdkmlgahfcpaaWKept
import Derived.Test.YtkmdkmlgahfcpaaWShare
import Derived.Test.YtkmdkmlgahfcpaaWN
import Derived.Test.YtkmdkmlgahfcpaaWFootNe
import Derived.Test.YtkmdkmlgahfcpaaWAt
import Derived.Test.YtkmdkmlgahfcpaaWEqStruct
import Derived.Test.YtkmdkmlgahfcpaaWRepsOne
import Derived.Test.YtkmdkmlgahfcpaaWInv
import Derived.Test.YtkmdkmlgahfcpaaWInvWords
import Derived.Test.YtkmdkmlgahfcpaaWGuard
import Derived.Test.YtkmdkmlgahfcpaaWNEv
import Derived.Test.YtkmdkmlgahfcpaaWMore
namespace Go.Proofs.Ytkmdkmlgahfcpaa.M
open Go.RowKit Go.Proofs.YtkmdkmlgahfcpaaW.PrintWords Go.Proofs.YtkmdkmlgahfcpaaW.PrintLast Go.Proofs.YtkmdkmlgahfcpaaW.PrintMore
attribute [local go_sem] max2_int min2_int max_two min_two max_three min_three max_four min_four   -- for this text's walks alone
set_option linter.unusedVariables false
set_option linter.unusedSimpArgs false



def ptrOf : Value → Option Addr
  | .pointer p => p
  | _ => none
def errW (T : Int → TypeId) (X : Int → Value) : Option Int → Value
  | none => .nilIface
  | some c => .iface 90 (.pointer (ptrOf (X c)))
theorem errW_none (T : Int → TypeId) (X : Int → Value) : errW T X none = .nilIface := rfl
theorem errW_some (T : Int → TypeId) (X : Int → Value) (c : Int) : errW T X (some c) = .iface 90 (.pointer (ptrOf (X c))) := rfl

theorem info5 : (Try.prog.info? 5).map (fun i => (i.zero, i.size, i.bytes)) = some (some (.int .u8 0), 1, 1) := by kernel_rfl
theorem info30 : (Try.prog.info? 30).map (fun i => (i.zero, i.size, i.bytes)) = some (some (.slice none 0 0), 1, 24) := by kernel_rfl
theorem info48 : (Try.prog.info? 48).map (fun i => (i.zero, i.size, i.bytes)) = some (some (.agg #[(.int .u64 0), (.int .u64 0)]), 2, 16) := by kernel_rfl
-- the values' own types
def rd_L1 (xs : List (List Int)) (i : Int) : (List Int) := xs.getD i.toNat ([] : List Int)
theorem at_L1 {w : World} {A : Option Addr} {n : Nat} {xs : List (List Int)} (h : Kd.C (Kd.slice 5 (Kd.int .u8)) w A n xs) (i : Int) (h0 : 0 ≤ i) (h1 : i < n) : ∃ ad A0 c0, A = some ad ∧ w.cell? (ad.add i.toNat) = some (.slice A0 (rd_L1 xs i).length c0) ∧ (rd_L1 xs i).length ≤ c0 ∧ (Kd.int .u8).C w A0 (rd_L1 xs i).length (rd_L1 xs i) := by
  obtain ⟨ad, c, e, _, hK, hc0⟩ := Kd.C_get h ([] : List Int) i h0 h1
  have hc : ∀ j u, c[j]? = some u → w.cell? (ad.add (i.toNat * 1 + j)) = some u := hc0
  obtain ⟨A0, c0, rfl, l0, g0⟩ := hK
  exact ⟨ad, A0, c0, e, by have hq := hc 0 _ rfl; rwa [Nat.mul_one, Nat.add_zero] at hq, l0, g0⟩

/-! #### struct type 48 -/
structure S48 where
  f0 : Int
  f1 : Int
def z48 : S48 := ⟨(0 : Int), (0 : Int)⟩
def k48 : Kd S48 := Kd.iso (Kd.pair (Kd.int .u64) (Kd.int .u64)) (fun x : S48 => (x.f0, x.f1))
theorem k48_heap : Kd.Heap k48 := Kd.heap_iso _ (Kd.heap_pair (Kd.heap_int .u64) (Kd.heap_int .u64))
theorem k48_open {w : World} {x : S48} {cs : List Value} (h : k48.K w x cs) : cs = [.int .u64 x.f0, .int .u64 x.f1] := by
  obtain ⟨_, _, rfl, rfl, rfl⟩ := h
  exact rfl
theorem k48_openM {w : World} {base : Nat} {ok : Nat → Prop} {x : S48} {cs : List Value} (h : k48.M w base ok x cs) : cs = [.int .u64 x.f0, .int .u64 x.f1] := by
  obtain ⟨_, _, rfl, rfl, rfl⟩ := h
  exact rfl
theorem k48_mk (w : World) (x : S48)  : k48.K w x [.int .u64 x.f0, .int .u64 x.f1] := ⟨[.int .u64 x.f0], [.int .u64 x.f1], rfl, rfl, rfl⟩
theorem k48_mkM (w : World) (base : Nat) (ok : Nat → Prop) (x : S48)  : k48.M w base ok x [.int .u64 x.f0, .int .u64 x.f1] := ⟨[.int .u64 x.f0], [.int .u64 x.f1], rfl, rfl, rfl⟩
theorem k48_mkF (W : World) (ok : Nat → Prop) (x : S48) : Kd.FK k48 W ok x [.int .u64 x.f0, .int .u64 x.f1] := fun W2 _ => k48_mk W2 x
def rd_T48 (xs : List S48) (i : Int) : S48 := xs.getD i.toNat z48
theorem at_T48 {w : World} {A : Option Addr} {n : Nat} {xs : List S48} (h : Kd.C k48 w A n xs) (i : Int) (h0 : 0 ≤ i) (h1 : i < n) : ∃ ad , A = some ad ∧ w.cell? (ad.add (i.toNat * 2)) = some (.int .u64 (rd_T48 xs i).f0) ∧ w.cell? ⟨(ad.add (i.toNat * 2)).block, (ad.add (i.toNat * 2)).off + 1, none⟩ = some (.int .u64 (rd_T48 xs i).f1) := by
  obtain ⟨ad, c, e, _, hK, hc0⟩ := Kd.C_get h z48 i h0 h1
  have hc : ∀ j u, c[j]? = some u → w.cell? (ad.add (i.toNat * 2 + j)) = some u := hc0
  obtain rfl := k48_open hK
  exact ⟨ad, e, hc 0 _ rfl, by rw [← add_field _ _ 1 (by omega)]; exact hc 1 _ rfl⟩

end Go.Proofs.Ytkmdkmlgahfcpaa.M

namespace Go.Proofs.Ytkmdkmlgahfcpaa.M
open Go.RowKit Go.Proofs.YtkmdkmlgahfcpaaW.PrintWords Go.Proofs.YtkmdkmlgahfcpaaW.PrintLast Go.Proofs.YtkmdkmlgahfcpaaW.PrintMore
attribute [local go_sem] max2_int min2_int max_two min_two max_three min_three max_four min_four   -- for this text's walks alone
set_option linter.unusedVariables false
set_option linter.unusedSimpArgs false

/-! ### laws_zzFits2: function 10 -/
def laws_zzFits2.l0 : Nat → List (List Int) → Int → Int → Option (Bool)
  | 0, _, _, _ => none
  | k + 1, x8, x9, x10 => if x10 < x9 then (if 0 ≤ x10 then (if x10 < (x8.length : Int) then (if ((rd_L1 x8 x10).length : Int) > 2147483647 then (some false) else (laws_zzFits2.l0 k x8 x9 (wrap64 (x10 + 1)))) else (none)) else (none)) else (some true)
def laws_zzFits2.f (k : Nat) (l0 : List (List Int)) : Option (Bool) := if (l0.length : Int) > 2147483647 then (some false) else (laws_zzFits2.l0 k l0 (l0.length : Int) 0)
theorem laws_zzFits2.mono_l : ∀ k, (∀ y0 y1 y2, LeO (laws_zzFits2.l0 k y0 y1 y2) (laws_zzFits2.l0 (k + 1) y0 y1 y2))
  | 0 => fun _ _ _ r h => by simp [laws_zzFits2.l0] at h
  | k + 1 => by
    have ih0 := laws_zzFits2.mono_l k
    · intro y0 y1 y2
      unfold laws_zzFits2.l0
      repeat' first
      | (with_reducible exact ih0 _ _ _)
      | (with_reducible exact LeO.refl _)
      | (with_reducible exact LeO.none _)
      | (with_reducible refine LeO.ite ?_ ?_)
      | (with_reducible refine LeO.bind ?_ (fun _ => ?_))
      | exact ih0 _ _ _
      | exact LeO.none _
      | refine LeO.ite ?_ ?_
      | refine LeO.bind ?_ (fun _ => ?_)
theorem laws_zzFits2.mono : ∀ a0 k, LeO (laws_zzFits2.f k a0) (laws_zzFits2.f (k + 1) a0) := by
  intro a0 k
  have ih0 := laws_zzFits2.mono_l k
  unfold laws_zzFits2.f
  repeat' first
      | (with_reducible exact ih0 _ _ _)
      | (with_reducible exact LeO.refl _)
      | (with_reducible exact LeO.none _)
      | (with_reducible refine LeO.ite ?_ ?_)
      | (with_reducible refine LeO.bind ?_ (fun _ => ?_))
      | exact ih0 _ _ _
      | exact LeO.none _
      | refine LeO.ite ?_ ?_
      | refine LeO.bind ?_ (fun _ => ?_)
set_option maxHeartbeats 8000000 in
set_option maxRecDepth 100000 in
theorem laws_zzFits2.calls (k : Nat) (A0 : Option Addr) (c0 : Nat) (l0 : List (List Int)) (r : Bool) (w : World) (hr0 : Kd.C (Kd.slice 5 (Kd.int .u8)) w A0 l0.length l0) (hc0 : l0.length ≤ c0) (h : laws_zzFits2.f k l0 = some r) :
    Calls Try.prog 10 #[.slice A0 l0.length c0] w fun e w' => e = .returned (.bool r) ∧ Drawn0 w w' := by
  have HR0 := Aside0.mk hr0
  have HC0 := Aside0.mk hc0
  clear hr0 hc0
  have H : (if (l0.length : Int) > 2147483647 then (some false) else (laws_zzFits2.l0 k l0 (l0.length : Int) 0)) = some r := h
  clear h
  by_cases c2 : (l0.length : Int) > 2147483647
  · rw [if_pos c2] at H
    have c2b0 : decide (2147483647 < (l0.length : Int)) = true := decide_eq_true c2
    have c2b1 : decide (2147483647 < l0.length) = true := decide_eq_true (by omega)
    clear c2
    obtain rfl := Option.some.inj H
    go_enter Try.func10, Try.ntmps10
    go_wp2
    go_ret
    exact ⟨by first | rfl | (simp; done) | (simp [*]; done), by repeat (first | exact Drawn0.refl _ | apply Drawn0.step)⟩
  · rw [if_neg c2] at H
    have c2b0 : decide (2147483647 < (l0.length : Int)) = false := decide_eq_false c2
    have c2b1 : decide (2147483647 < l0.length) = false := decide_eq_false (by omega)
    clear c2
    have H' := Aside0.mk H
    clear H
    go_enter Try.func10, Try.ntmps10
    go_wp2
    go_loopg [10] k (fun kq v10 w' => ∃ (x10_1 : Int), v10 = .int .i64 x10_1 ∧ Aside0 (laws_zzFits2.l0 kq l0 (l0.length : Int) x10_1 = some r) ∧ Aside0 (kq ≤ k) ∧ Drawn0 w w')
    case atStart => exact ⟨(0), (by first | rfl | (simp; done) | (simp [*]; done)), H', ⟨Nat.le_refl _⟩, by repeat (first | exact Drawn0.refl _ | apply Drawn0.step)⟩
    case round =>
      clear H'
      try clear c1
      try clear c2
      try clear c2b0
      try clear c2b1
      try clear p2
      obtain ⟨x10_1, rfl, HA, HK1, ⟨m1, rfl⟩⟩ := hrel
      cases gk with
      | zero => exact absurd HA.out (by simp [laws_zzFits2.l0])
      | succ k1 =>
        have H := HA.out
        clear HA
        simp only [laws_zzFits2.l0] at H
        by_cases c3 : x10_1 < (l0.length : Int)
        · rw [if_pos c3] at H
          have c3b0 : decide (x10_1 < (l0.length : Int)) = true := decide_eq_true c3
          clear c3
          by_cases c4 : 0 ≤ x10_1
          · rw [if_pos c4] at H
            have c4b0 : decide (0 ≤ x10_1) = true := decide_eq_true c4
            clear c4
            by_cases c5 : x10_1 < (l0.length : Int)
            · rw [if_pos c5] at H
              have c5b0 : decide (x10_1 < (l0.length : Int)) = true := decide_eq_true c5
              clear c5
              by_cases c6 : ((rd_L1 l0 x10_1).length : Int) > 2147483647
              · rw [if_pos c6] at H
                have c6b0 : decide (2147483647 < ((rd_L1 l0 x10_1).length : Int)) = true := decide_eq_true c6
                have c6b1 : decide (2147483647 < (rd_L1 l0 x10_1).length) = true := decide_eq_true (by omega)
                clear c6
                obtain rfl := Option.some.inj H
                have p101 : 0 ≤ (x10_1 : Int) := of_decide_eq_true (by first | (with_reducible assumption) | assumption)
                have q101 : x10_1 < (l0.length : Int) := of_decide_eq_true (by first | (with_reducible assumption) | assumption)
                obtain ⟨ad101, A101_0, c101_0, e101, hx101_0, hl101_0, hi101_0⟩ := at_L1 HR0.out x10_1 p101 q101
                cases e101
                have HR101_0 := Aside0.mk hi101_0
                have HC101_0 := Aside0.mk hl101_0
                clear hi101_0 hl101_0
                replace p101 := eq_true p101
                replace q101 := eq_true q101
                go_wp2
                go_ret
                exact ⟨by first | rfl | (simp; done) | (simp [*]; done), by repeat (first | exact Drawn0.refl _ | apply Drawn0.step)⟩
              · rw [if_neg c6] at H
                have c6b0 : decide (2147483647 < ((rd_L1 l0 x10_1).length : Int)) = false := decide_eq_false c6
                have c6b1 : decide (2147483647 < (rd_L1 l0 x10_1).length) = false := decide_eq_false (by omega)
                clear c6
                have H' := Aside0.mk H
                clear H
                have p101 : 0 ≤ (x10_1 : Int) := of_decide_eq_true (by first | (with_reducible assumption) | assumption)
                have q101 : x10_1 < (l0.length : Int) := of_decide_eq_true (by first | (with_reducible assumption) | assumption)
                obtain ⟨ad101, A101_0, c101_0, e101, hx101_0, hl101_0, hi101_0⟩ := at_L1 HR0.out x10_1 p101 q101
                cases e101
                have HR101_0 := Aside0.mk hi101_0
                have HC101_0 := Aside0.mk hl101_0
                clear hi101_0 hl101_0
                replace p101 := eq_true p101
                replace q101 := eq_true q101
                go_wp2
                go_roundg k1
                case measure => have := HK1.out; omega
                case rel => exact ⟨(wrap64 (x10_1 + 1)), (by first | rfl | (simp; done) | (simp [*]; done)), H', ⟨by have := HK1.out; omega⟩, by repeat (first | exact Drawn0.refl _ | apply Drawn0.step)⟩
            · rw [if_neg c5] at H
              exact absurd H (by simp)
          · rw [if_neg c4] at H
            exact absurd H (by simp)
        · rw [if_neg c3] at H
          have c3b0 : decide (x10_1 < (l0.length : Int)) = false := decide_eq_false c3
          clear c3
          obtain rfl := Option.some.inj H
          go_wp2
          go_ret
          exact ⟨by first | rfl | (simp; done) | (simp [*]; done), by repeat (first | exact Drawn0.refl _ | apply Drawn0.step)⟩

end Go.Proofs.Ytkmdkmlgahfcpaa.M

namespace Go.Proofs.Ytkmdkmlgahfcpaa.M
open Go.RowKit Go.Proofs.YtkmdkmlgahfcpaaW.PrintWords Go.Proofs.YtkmdkmlgahfcpaaW.PrintLast Go.Proofs.YtkmdkmlgahfcpaaW.PrintMore
attribute [local go_sem] max2_int min2_int max_two min_two max_three min_three max_four min_four   -- for this text's walks alone
set_option linter.unusedVariables false
set_option linter.unusedSimpArgs false

/-! ### laws_logSmall: function 11 -/
def laws_logSmall.l0 : Nat → List (List Int) → List (List Int) → Int → Int → Option (Bool)
  | 0, _, _, _, _ => none
  | k + 1, x0, x5, x6, x7 => if x7 < x6 then (if 0 ≤ x7 then (if x7 < (x5.length : Int) then (if ((rd_L1 x5 x7).length : Int) > 5000 then (some false) else (laws_logSmall.l0 k x0 x5 x6 (wrap64 (x7 + 1)))) else (none)) else (none)) else (some (decide ((x0.length : Int) ≤ 300)))
def laws_logSmall.f (k : Nat) (l0 : List (List Int)) : Option (Bool) := laws_logSmall.l0 k l0 l0 (l0.length : Int) 0
theorem laws_logSmall.mono_l : ∀ k, (∀ y0 y1 y2 y3, LeO (laws_logSmall.l0 k y0 y1 y2 y3) (laws_logSmall.l0 (k + 1) y0 y1 y2 y3))
  | 0 => fun _ _ _ _ r h => by simp [laws_logSmall.l0] at h
  | k + 1 => by
    have ih0 := laws_logSmall.mono_l k
    · intro y0 y1 y2 y3
      unfold laws_logSmall.l0
      repeat' first
      | (with_reducible exact ih0 _ _ _ _)
      | (with_reducible exact LeO.refl _)
      | (with_reducible exact LeO.none _)
      | (with_reducible refine LeO.ite ?_ ?_)
      | (with_reducible refine LeO.bind ?_ (fun _ => ?_))
      | exact ih0 _ _ _ _
      | exact LeO.none _
      | refine LeO.ite ?_ ?_
      | refine LeO.bind ?_ (fun _ => ?_)
theorem laws_logSmall.mono : ∀ a0 k, LeO (laws_logSmall.f k a0) (laws_logSmall.f (k + 1) a0) := by
  intro a0 k
  have ih0 := laws_logSmall.mono_l k
  unfold laws_logSmall.f
  repeat' first
      | (with_reducible exact ih0 _ _ _ _)
      | (with_reducible exact LeO.refl _)
      | (with_reducible exact LeO.none _)
      | (with_reducible refine LeO.ite ?_ ?_)
      | (with_reducible refine LeO.bind ?_ (fun _ => ?_))
      | exact ih0 _ _ _ _
      | exact LeO.none _
      | refine LeO.ite ?_ ?_
      | refine LeO.bind ?_ (fun _ => ?_)
set_option maxHeartbeats 8000000 in
set_option maxRecDepth 100000 in
theorem laws_logSmall.calls (k : Nat) (A0 : Option Addr) (c0 : Nat) (l0 : List (List Int)) (r : Bool) (w : World) (hr0 : Kd.C (Kd.slice 5 (Kd.int .u8)) w A0 l0.length l0) (hc0 : l0.length ≤ c0) (h : laws_logSmall.f k l0 = some r) :
    Calls Try.prog 11 #[.slice A0 l0.length c0] w fun e w' => e = .returned (.bool r) ∧ Drawn0 w w' := by
  have HR0 := Aside0.mk hr0
  have HC0 := Aside0.mk hc0
  clear hr0 hc0
  have H : (laws_logSmall.l0 k l0 l0 (l0.length : Int) 0) = some r := h
  clear h
  have H' := Aside0.mk H
  clear H
  go_enter Try.func11, Try.ntmps11
  go_wp2
  go_loopg [7] k (fun kq v7 w' => ∃ (x7_1 : Int), v7 = .int .i64 x7_1 ∧ Aside0 (laws_logSmall.l0 kq l0 l0 (l0.length : Int) x7_1 = some r) ∧ Aside0 (kq ≤ k) ∧ Drawn0 w w')
  case atStart => exact ⟨(0), (by first | rfl | (simp; done) | (simp [*]; done)), H', ⟨Nat.le_refl _⟩, by repeat (first | exact Drawn0.refl _ | apply Drawn0.step)⟩
  case round =>
    clear H'
    try clear c1
    obtain ⟨x7_1, rfl, HA, HK1, ⟨m1, rfl⟩⟩ := hrel
    cases gk with
    | zero => exact absurd HA.out (by simp [laws_logSmall.l0])
    | succ k1 =>
      have H := HA.out
      clear HA
      simp only [laws_logSmall.l0] at H
      by_cases c2 : x7_1 < (l0.length : Int)
      · rw [if_pos c2] at H
        have c2b0 : decide (x7_1 < (l0.length : Int)) = true := decide_eq_true c2
        clear c2
        by_cases c3 : 0 ≤ x7_1
        · rw [if_pos c3] at H
          have c3b0 : decide (0 ≤ x7_1) = true := decide_eq_true c3
          clear c3
          by_cases c4 : x7_1 < (l0.length : Int)
          · rw [if_pos c4] at H
            have c4b0 : decide (x7_1 < (l0.length : Int)) = true := decide_eq_true c4
            clear c4
            by_cases c5 : ((rd_L1 l0 x7_1).length : Int) > 5000
            · rw [if_pos c5] at H
              have c5b0 : decide (5000 < ((rd_L1 l0 x7_1).length : Int)) = true := decide_eq_true c5
              have c5b1 : decide (5000 < (rd_L1 l0 x7_1).length) = true := decide_eq_true (by omega)
              clear c5
              obtain rfl := Option.some.inj H
              have p102 : 0 ≤ (x7_1 : Int) := of_decide_eq_true (by first | (with_reducible assumption) | assumption)
              have q102 : x7_1 < (l0.length : Int) := of_decide_eq_true (by first | (with_reducible assumption) | assumption)
              obtain ⟨ad102, A102_0, c102_0, e102, hx102_0, hl102_0, hi102_0⟩ := at_L1 HR0.out x7_1 p102 q102
              cases e102
              have HR102_0 := Aside0.mk hi102_0
              have HC102_0 := Aside0.mk hl102_0
              clear hi102_0 hl102_0
              replace p102 := eq_true p102
              replace q102 := eq_true q102
              go_wp2
              go_ret
              exact ⟨by first | rfl | (simp; done) | (simp [*]; done), by repeat (first | exact Drawn0.refl _ | apply Drawn0.step)⟩
            · rw [if_neg c5] at H
              have c5b0 : decide (5000 < ((rd_L1 l0 x7_1).length : Int)) = false := decide_eq_false c5
              have c5b1 : decide (5000 < (rd_L1 l0 x7_1).length) = false := decide_eq_false (by omega)
              clear c5
              have H' := Aside0.mk H
              clear H
              have p102 : 0 ≤ (x7_1 : Int) := of_decide_eq_true (by first | (with_reducible assumption) | assumption)
              have q102 : x7_1 < (l0.length : Int) := of_decide_eq_true (by first | (with_reducible assumption) | assumption)
              obtain ⟨ad102, A102_0, c102_0, e102, hx102_0, hl102_0, hi102_0⟩ := at_L1 HR0.out x7_1 p102 q102
              cases e102
              have HR102_0 := Aside0.mk hi102_0
              have HC102_0 := Aside0.mk hl102_0
              clear hi102_0 hl102_0
              replace p102 := eq_true p102
              replace q102 := eq_true q102
              go_wp2
              go_roundg k1
              case measure => have := HK1.out; omega
              case rel => exact ⟨(wrap64 (x7_1 + 1)), (by first | rfl | (simp; done) | (simp [*]; done)), H', ⟨by have := HK1.out; omega⟩, by repeat (first | exact Drawn0.refl _ | apply Drawn0.step)⟩
          · rw [if_neg c4] at H
            exact absurd H (by simp)
        · rw [if_neg c3] at H
          exact absurd H (by simp)
      · rw [if_neg c2] at H
        have c2b0 : decide (x7_1 < (l0.length : Int)) = false := decide_eq_false c2
        clear c2
        obtain rfl := Option.some.inj H
        go_wp2
        go_ret
        exact ⟨by first | rfl | (simp; done) | (simp [*]; done), by repeat (first | exact Drawn0.refl _ | apply Drawn0.step)⟩

end Go.Proofs.Ytkmdkmlgahfcpaa.M

namespace Go.Proofs.Ytkmdkmlgahfcpaa.M
open Go.RowKit Go.Proofs.YtkmdkmlgahfcpaaW.PrintWords Go.Proofs.YtkmdkmlgahfcpaaW.PrintLast Go.Proofs.YtkmdkmlgahfcpaaW.PrintMore
attribute [local go_sem] max2_int min2_int max_two min_two max_three min_three max_four min_four   -- for this text's walks alone
set_option linter.unusedVariables false
set_option linter.unusedSimpArgs false

/-! ### spec_split: function 39 -/
def spec_split.l0 : Nat → Int → Int → Option (Int)
  | 0, _, _ => none
  | k + 1, x0, x3 => if x3 < (IntKind.u64.wrap (x0 - x3)) then (spec_split.l0 k x0 (IntKind.u64.wrap (x3 * 2))) else (some x3)
def spec_split.f (k : Nat) (a0 : Int) : Option (Int) := spec_split.l0 k a0 1
theorem spec_split.mono_l : ∀ k, (∀ y0 y1, LeO (spec_split.l0 k y0 y1) (spec_split.l0 (k + 1) y0 y1))
  | 0 => fun _ _ r h => by simp [spec_split.l0] at h
  | k + 1 => by
    have ih0 := spec_split.mono_l k
    · intro y0 y1
      unfold spec_split.l0
      repeat' first
      | (with_reducible exact ih0 _ _)
      | (with_reducible exact LeO.refl _)
      | (with_reducible exact LeO.none _)
      | (with_reducible refine LeO.ite ?_ ?_)
      | (with_reducible refine LeO.bind ?_ (fun _ => ?_))
      | exact ih0 _ _
      | exact LeO.none _
      | refine LeO.ite ?_ ?_
      | refine LeO.bind ?_ (fun _ => ?_)
theorem spec_split.mono : ∀ a0 k, LeO (spec_split.f k a0) (spec_split.f (k + 1) a0) := by
  intro a0 k
  have ih0 := spec_split.mono_l k
  unfold spec_split.f
  repeat' first
      | (with_reducible exact ih0 _ _)
      | (with_reducible exact LeO.refl _)
      | (with_reducible exact LeO.none _)
      | (with_reducible refine LeO.ite ?_ ?_)
      | (with_reducible refine LeO.bind ?_ (fun _ => ?_))
      | exact ih0 _ _
      | exact LeO.none _
      | refine LeO.ite ?_ ?_
      | refine LeO.bind ?_ (fun _ => ?_)
set_option maxHeartbeats 8000000 in
set_option maxRecDepth 100000 in
theorem spec_split.calls (k : Nat) (a0 : Int) (r : Int) (w : World) (h : spec_split.f k a0 = some r) :
    Calls Try.prog 39 #[.int .u64 a0] w fun e w' => e = .returned (.int .u64 r) ∧ Drawn0 w w' := by
  have H : (spec_split.l0 k a0 1) = some r := h
  clear h
  have H' := Aside0.mk H
  clear H
  go_enter Try.func39, Try.ntmps39
  go_wp2
  go_loopg [3] k (fun kq v3 w' => ∃ (x3_1 : Int), v3 = .int .u64 x3_1 ∧ Aside0 (spec_split.l0 kq a0 x3_1 = some r) ∧ Aside0 (kq ≤ k) ∧ Drawn0 w w')
  case atStart => exact ⟨(1), (by first | rfl | (simp; done) | (simp [*]; done)), H', ⟨Nat.le_refl _⟩, by repeat (first | exact Drawn0.refl _ | apply Drawn0.step)⟩
  case round =>
    clear H'
    obtain ⟨x3_1, rfl, HA, HK1, ⟨m1, rfl⟩⟩ := hrel
    cases gk with
    | zero => exact absurd HA.out (by simp [spec_split.l0])
    | succ k1 =>
      have H := HA.out
      clear HA
      simp only [spec_split.l0] at H
      by_cases c2 : x3_1 < (IntKind.u64.wrap (a0 - x3_1))
      · rw [if_pos c2] at H
        have c2b0 : decide (x3_1 < (IntKind.u64.wrap (a0 - x3_1))) = true := decide_eq_true c2
        clear c2
        have H' := Aside0.mk H
        clear H
        go_wp2
        go_roundg k1
        case measure => have := HK1.out; omega
        case rel => exact ⟨(IntKind.u64.wrap (x3_1 * 2)), (by first | rfl | (simp; done) | (simp [*]; done)), H', ⟨by have := HK1.out; omega⟩, by repeat (first | exact Drawn0.refl _ | apply Drawn0.step)⟩
      · rw [if_neg c2] at H
        have c2b0 : decide (x3_1 < (IntKind.u64.wrap (a0 - x3_1))) = false := decide_eq_false c2
        clear c2
        obtain rfl := Option.some.inj H
        go_wp2
        go_ret
        exact ⟨by first | rfl | (simp; done) | (simp [*]; done), by repeat (first | exact Drawn0.refl _ | apply Drawn0.step)⟩

end Go.Proofs.Ytkmdkmlgahfcpaa.M

namespace Go.Proofs.Ytkmdkmlgahfcpaa.M
open Go.RowKit Go.Proofs.YtkmdkmlgahfcpaaW.PrintWords Go.Proofs.YtkmdkmlgahfcpaaW.PrintLast Go.Proofs.YtkmdkmlgahfcpaaW.PrintMore
attribute [local go_sem] max2_int min2_int max_two min_two max_three min_three max_four min_four   -- for this text's walks alone
set_option linter.unusedVariables false
set_option linter.unusedSimpArgs false

/-! ### spec_pathIn: function 26 -/
def spec_pathIn.f : Nat → Int → Int → Int → Option ((List (S48)))
  | 0, _, _, _ => none
  | k + 1, a0, a1_0, a1_1 => if (IntKind.u64.wrap (a1_1 - a1_0)) = 1 then (some ([] : List (S48))) else ((spec_split.f k (IntKind.u64.wrap (a1_1 - a1_0))).bind fun t209 => (if a0 < (IntKind.u64.wrap (a1_0 + t209)) then ((spec_pathIn.f k a0 a1_0 (IntKind.u64.wrap (a1_0 + t209))).bind fun t210 => ((some (([(⟨IntKind.u64.wrap (a1_0 + t209), a1_1⟩ : S48)] : List (S48)) : List (S48))).bind fun y213 => (if t210.length + y213.length < 8796093022208 then (some (t210 ++ y213)) else (none)))) else ((spec_pathIn.f k a0 (IntKind.u64.wrap (a1_0 + t209)) a1_1).bind fun t219 => ((some (([(⟨a1_0, IntKind.u64.wrap (a1_0 + t209)⟩ : S48)] : List (S48)) : List (S48))).bind fun y222 => (if t219.length + y222.length < 8796093022208 then (some (t219 ++ y222)) else (none))))))
theorem spec_pathIn.mono_l : ∀ k, (∀ y0 y1 y2, LeO (spec_pathIn.f k y0 y1 y2) (spec_pathIn.f (k + 1) y0 y1 y2))
  | 0 => fun _ _ _ r h => by simp [spec_pathIn.f] at h
  | k + 1 => by
    have ih0 := spec_pathIn.mono_l k
    · intro y0 y1 y2
      unfold spec_pathIn.f
      repeat' first
      | (with_reducible exact ih0 _ _ _)
      | (with_reducible exact spec_split.mono _ _)
      | (with_reducible exact LeO.refl _)
      | (with_reducible exact LeO.none _)
      | (with_reducible refine LeO.ite ?_ ?_)
      | (with_reducible refine LeO.bind ?_ (fun _ => ?_))
      | exact ih0 _ _ _
      | exact spec_split.mono _ _
      | exact LeO.none _
      | refine LeO.ite ?_ ?_
      | refine LeO.bind ?_ (fun _ => ?_)
theorem spec_pathIn.mono : ∀ a0 a1 a2 k, LeO (spec_pathIn.f k a0 a1 a2) (spec_pathIn.f (k + 1) a0 a1 a2) := by
  intro a0 a1 a2 k
  have ih0 := spec_pathIn.mono_l k
  exact ih0 a0 a1 a2
def spec_pathIn.T3 : Bool × List (List Nat × List Nat) := (true, [([], []), ([0], [0]), ([], []), ([2], [2]), ([], []), ([4], [4]), ([3, 5], [3, 5]), ([6], [6]), ([1, 7], [1, 7]), ([8, 7, 0, 1, 2, 3, 4, 5, 6, 7, 8], [8])])
def spec_pathIn.B3 : List Nat := [0, 1, 0, 4, 0, 16, 60, 124, 255, 511]
theorem spec_pathIn.tab3 : rtab .any (opsOf Try.f26 3) = spec_pathIn.T3 := by kernel_rfl
theorem spec_pathIn.bits3 : waitsOk spec_pathIn.T3.2 spec_pathIn.B3 = true := by kernel_rfl
def spec_pathIn.T5 : Bool × List (List Nat × List Nat) := (true, [([], []), ([], []), ([1], [1]), ([], []), ([2, 3], [2, 3]), ([0, 4], [0, 4]), ([], []), ([], []), ([7], [7]), ([6, 8], [6, 8]), ([9], [9]), ([5, 10, 5], [5, 10]), ([11, 11, 0, 1, 2, 3, 4, 5, 6, 7, 8, 9, 10, 11], [11])])
def spec_pathIn.B5 : List Nat := [0, 0, 2, 0, 14, 31, 0, 0, 128, 448, 960, 2047, 4095]
theorem spec_pathIn.tab5 : rtab .any (opsOf Try.f26 5) = spec_pathIn.T5 := by kernel_rfl
theorem spec_pathIn.bits5 : waitsOk spec_pathIn.T5.2 spec_pathIn.B5 = true := by kernel_rfl
def spec_pathIn.T6 : Bool × List (List Nat × List Nat) := (true, [([], []), ([], []), ([], []), ([2], [2]), ([1, 3], [1, 3]), ([0, 4], [0, 4]), ([], []), ([6], [6]), ([], []), ([7, 8], [7, 8]), ([9], [9]), ([5, 10, 5], [5, 10]), ([11, 11, 0, 1, 2, 3, 4, 5, 6, 7, 8, 9, 10, 11], [11])])
def spec_pathIn.B6 : List Nat := [0, 0, 0, 4, 14, 31, 0, 64, 0, 448, 960, 2047, 4095]
theorem spec_pathIn.tab6 : rtab .any (opsOf Try.f26 6) = spec_pathIn.T6 := by kernel_rfl
theorem spec_pathIn.bits6 : waitsOk spec_pathIn.T6.2 spec_pathIn.B6 = true := by kernel_rfl
set_option maxHeartbeats 8000000 in
set_option maxRecDepth 100000 in
theorem spec_pathIn.calls (k : Nat) : ∀ (a0 : Int) (a1_0 : Int) (a1_1 : Int) (r : List (S48)) (w : World) (h : spec_pathIn.f k a0 a1_0 a1_1 = some r),
    Calls Try.prog 26 #[.int .u64 a0, .agg #[.int .u64 a1_0, .int .u64 a1_1]] w fun e w' => ∃ v0_ : Value, e = .returned (v0_) ∧ Kd.R k48 48 w' w.heap.size (fun _ => True) v0_ r ∧ Below w.heap.size w w' := by
  induction k using Nat.strongRecOn with
  | _ k ih =>
  intro a0 a1_0 a1_1 r w h
  cases k with
  | zero => exact absurd h (by simp [spec_pathIn.f])
  | succ k =>
  simp only [spec_pathIn.f] at h
  have hu48 := Try.underlying48
  have HB := Aside0.mk (Below.refl w.heap.size w)
  have H : (if (IntKind.u64.wrap (a1_1 - a1_0)) = 1 then (some ([] : List (S48))) else ((spec_split.f k (IntKind.u64.wrap (a1_1 - a1_0))).bind fun t209 => (if a0 < (IntKind.u64.wrap (a1_0 + t209)) then ((spec_pathIn.f k a0 a1_0 (IntKind.u64.wrap (a1_0 + t209))).bind fun t210 => ((some (([(⟨IntKind.u64.wrap (a1_0 + t209), a1_1⟩ : S48)] : List (S48)) : List (S48))).bind fun y213 => (if t210.length + y213.length < 8796093022208 then (some (t210 ++ y213)) else (none)))) else ((spec_pathIn.f k a0 (IntKind.u64.wrap (a1_0 + t209)) a1_1).bind fun t219 => ((some (([(⟨a1_0, IntKind.u64.wrap (a1_0 + t209)⟩ : S48)] : List (S48)) : List (S48))).bind fun y222 => (if t219.length + y222.length < 8796093022208 then (some (t219 ++ y222)) else (none))))))) = some r := h
  clear h
  by_cases c3 : (IntKind.u64.wrap (a1_1 - a1_0)) = 1
  · rw [if_pos c3] at H
    have c3b0 : ((IntKind.u64.wrap (a1_1 - a1_0)) == 1) = true := beq_iff_eq.mpr c3
    have c3b1 : ((IntKind.u64.wrap (a1_1 - a1_0)) != 1) = false := bne_eq_false_iff_eq.mpr c3
    clear c3
    obtain rfl := Option.some.inj H
    go_enter Try.func26, Try.ntmps26
    go_wp2_with (first | ((with_reducible refine gate_dst (N := 3) rfl ?_); refine box_event ?hg (N := 3) ?hd (cs := #[.int .u64 a1_0, .int .u64 a1_1]) (t := 48) ?hr ?_; (case hd => rfl); (case hg => rfl); (case hr => first | (go_simp; done) | (go_simp; rfl)); intro gb208 hg w4 hbox hb; have n0_ := Aside0.mk (below_step (by repeat (first | (with_reducible first | exact HB.out | apply below_alloc | apply pw_below_drewN | apply below_drew1) | exact HB.out)) hb); have n1_ := Aside0.mk (hbox); have n2_ := Aside0.mk ((by rw [hg]; exact (below_size (by repeat (first | (with_reducible first | exact HB.out | apply below_alloc | apply pw_below_drewN | apply below_drew1) | exact HB.out))) : w.heap.size ≤ gb208)); have n3_ := Aside0.mk ((by rw [hg]; exact (below_size (by repeat (first | (with_reducible first | exact HB.out | apply below_alloc | apply pw_below_drewN | apply below_drew1) | exact HB.out))) : w.heap.size ≤ gb208)); clear HB; have HB := n0_; have BK208 := n1_; have GW208 := n2_; have GE208 := n3_; clear n0_ n1_ n2_ n3_; clear hb hbox hg; have hcz5_0 : w4.cell? ⟨gb208, 0, none⟩ = some (.int .u64 a1_0) := (blk_cell BK208.out 0).trans rfl; have hcz5_1 : w4.cell? ⟨gb208, 1, none⟩ = some (.int .u64 a1_1) := (blk_cell BK208.out 1).trans rfl; have hfz5_0 := blk_frozen BK208.out 0; have hfz5_1 := blk_frozen BK208.out 1))
    go_ret
    exact ⟨(.slice none 0 0), by first | rfl | (simp [errW_none, errW_some] <;> rfl) | (simp [*, errW_none, errW_some] <;> rfl), by first | exact Kd.V_nil _ _ _ _ _ | exact Kd.R_nil _ _ _ _ _ | exact Kd.S_nil _ _ _ _ _ | exact Kd.N_nil _ _ _ _ _ | exact Kd.Q_nil _ _ _ _ _, by repeat (first | (with_reducible first | exact HB.out | apply below_alloc | apply pw_below_drewN | apply below_drew1 | refine below_set ?_ GE208.out) | exact HB.out)⟩
  · rw [if_neg c3] at H
    have c3b0 : ((IntKind.u64.wrap (a1_1 - a1_0)) == 1) = false := beq_eq_false_iff_ne.mpr c3
    have c3b1 : ((IntKind.u64.wrap (a1_1 - a1_0)) != 1) = true := bne_iff_ne.mpr c3
    replace H := Option.bind_eq_some_iff.mp H
    obtain ⟨t209, A60, H⟩ := H
    replace H : (if a0 < (IntKind.u64.wrap (a1_0 + t209)) then ((spec_pathIn.f k a0 a1_0 (IntKind.u64.wrap (a1_0 + t209))).bind fun t210 => ((some (([(⟨IntKind.u64.wrap (a1_0 + t209), a1_1⟩ : S48)] : List (S48)) : List (S48))).bind fun y213 => (if t210.length + y213.length < 8796093022208 then (some (t210 ++ y213)) else (none)))) else ((spec_pathIn.f k a0 (IntKind.u64.wrap (a1_0 + t209)) a1_1).bind fun t219 => ((some (([(⟨a1_0, IntKind.u64.wrap (a1_0 + t209)⟩ : S48)] : List (S48)) : List (S48))).bind fun y222 => (if t219.length + y222.length < 8796093022208 then (some (t219 ++ y222)) else (none))))) = some r := H
    have A6 := Aside0.mk A60
    clear A60
    by_cases c7 : a0 < (IntKind.u64.wrap (a1_0 + t209))
    · rw [if_pos c7] at H
      have c7b0 : decide (a0 < (IntKind.u64.wrap (a1_0 + t209))) = true := decide_eq_true c7
      clear c7
      replace H := Option.bind_eq_some_iff.mp H
      obtain ⟨t210, A80, H⟩ := H
      replace H : ((some (([(⟨IntKind.u64.wrap (a1_0 + t209), a1_1⟩ : S48)] : List (S48)) : List (S48))).bind fun y213 => (if t210.length + y213.length < 8796093022208 then (some (t210 ++ y213)) else (none))) = some r := H
      have A8 := Aside0.mk A80
      clear A80
      obtain ⟨y213, hy213⟩ : ∃ y_ : List (S48), y_ = (([(⟨IntKind.u64.wrap (a1_0 + t209), a1_1⟩ : S48)] : List (S48))) := ⟨_, rfl⟩
      replace H : (if t210.length + y213.length < 8796093022208 then (some (t210 ++ y213)) else (none)) = some r := by first | (rw [hy213]; with_reducible exact H) | (have H2_ := (Option.bind_some _ _).symm.trans H; rw [hy213]; with_reducible exact H2_) | (have H2_ := (Option.bind_some _ _).symm.trans H; with_reducible exact H2_) | with_reducible exact H | (rw [hy213]; exact H) | exact H
      have Ny213 := Aside0.mk hy213
      clear hy213
      by_cases c9 : t210.length + y213.length < 8796093022208
      · rw [if_pos c9] at H
        have LMc9 := Aside0.mk c9
        clear c9
        obtain ⟨y216, hy216⟩ : ∃ y_ : List (S48), y_ = (t210 ++ y213) := ⟨_, rfl⟩
        replace H : (some y216) = some r := by first | (rw [hy216]; with_reducible exact H) | (have H2_ := (Option.bind_some _ _).symm.trans H; rw [hy216]; with_reducible exact H2_) | (have H2_ := (Option.bind_some _ _).symm.trans H; with_reducible exact H2_) | with_reducible exact H | (rw [hy216]; exact H) | exact H
        have Ny216 := Aside0.mk hy216
        clear hy216
        obtain rfl := Option.some.inj H
        go_enter Try.func26, Try.ntmps26
        try go_wp2_with (first | ((with_reducible refine gate_dst (N := 3) rfl ?_); refine box_event ?hg (N := 3) ?hd (cs := #[.int .u64 a1_0, .int .u64 a1_1]) (t := 48) ?hr ?_; (case hd => rfl); (case hg => rfl); (case hr => first | (go_simp; done) | (go_simp; rfl)); intro gb208 hg w10 hbox hb; have n0_ := Aside0.mk (below_step (by repeat (first | (with_reducible first | exact HB.out | apply below_alloc | apply pw_below_drewN | apply below_drew1) | exact HB.out)) hb); have n1_ := Aside0.mk (hbox); have n2_ := Aside0.mk ((by rw [hg]; exact (below_size (by repeat (first | (with_reducible first | exact HB.out | apply below_alloc | apply pw_below_drewN | apply below_drew1) | exact HB.out))) : w.heap.size ≤ gb208)); have n3_ := Aside0.mk ((by rw [hg]; exact (below_size (by repeat (first | (with_reducible first | exact HB.out | apply below_alloc | apply pw_below_drewN | apply below_drew1) | exact HB.out))) : w.heap.size ≤ gb208)); clear HB; have HB := n0_; have BK208 := n1_; have GW208 := n2_; have GE208 := n3_; clear n0_ n1_ n2_ n3_; clear hb hbox hg; have hcz11_0 : w10.cell? ⟨gb208, 0, none⟩ = some (.int .u64 a1_0) := (blk_cell BK208.out 0).trans rfl; have hcz11_1 : w10.cell? ⟨gb208, 1, none⟩ = some (.int .u64 a1_1) := (blk_cell BK208.out 1).trans rfl; have hfz11_0 := blk_frozen BK208.out 0; have hfz11_1 := blk_frozen BK208.out 1))
        have n0_ := Aside0.mk (blk_drew BK208.out)
        have n1_ := Aside0.mk (below_drew1 HB.out)
        clear BK208
        clear HB
        have BK208 := n0_
        have HB := n1_
        clear n0_ n1_
        refine start_ (n := 10) (S := fun w' => w'.cell? ⟨gb208, 0, none⟩ = some (.int .u64 a1_0) ∧ w'.cell? ⟨gb208, 1, none⟩ = some (.int .u64 a1_1)) (ds := []) #[false, false, false, false, false, false, false, false, false, false] (by kernel_rfl) rfl rfl ⟨(blk_cell BK208.out 0).trans rfl, (blk_cell BK208.out 1).trans rfl⟩ (fun hHeld => ?_); refine with_tabW spec_pathIn.tab3 spec_pathIn.bits3 (fun HT_ HW_ => ?_)
        generalize w10.drew = w12 at BK208 HB hHeld ⊢
        refine pure_ (i := 0) (N := some 12) (v := ?_) (a' := ?_) #[true, false, false, false, false, false, false, false, false, false] rfl rfl (any_of HT_.out (by kernel_rfl)) (fun _ _ _ h => h) (Or.inl ⟨by rfl, ?_⟩) ?_ ?_
        rotate_left
        · intro w'
          go_simp
          with_reducible rfl
        rotate_left
        · simp only [Act.put, List.setIfInBounds_toArray, List.set_cons_zero, List.set_cons_succ, i64_w, i32_w]
          rfl
        refine pure_ (i := 2) (N := some 14) (v := ?_) (a' := ?_) #[true, false, true, false, false, false, false, false, false, false] rfl rfl (any_of HT_.out (by kernel_rfl)) (fun _ _ _ h => h) (Or.inl ⟨by rfl, ?_⟩) ?_ ?_
        rotate_left
        · intro w'
          go_simp
          with_reducible rfl
        rotate_left
        · simp only [Act.put, List.setIfInBounds_toArray, List.set_cons_zero, List.set_cons_succ, i64_w, i32_w]
          rfl
        refine pure_ (i := 4) (N := some 16) (v := ?_) (a' := ?_) #[true, false, true, false, true, false, false, false, false, false] rfl rfl (any_of HT_.out (by kernel_rfl)) (fun _ _ _ h => h) (Or.inl ⟨by rfl, ?_⟩) ?_ ?_
        rotate_left
        · intro w'
          go_simp
          with_reducible rfl
        rotate_left
        · simp only [Act.put, List.setIfInBounds_toArray, List.set_cons_zero, List.set_cons_succ, i64_w, i32_w]
          rfl
        refine take_ (i := 1) (N := some 13) (v := ?_) (a' := ?_) #[true, true, true, false, true, false, false, false, false, false] rfl rfl (take_ofW HT_.out HW_.out (by kernel_rfl)) (fun _ _ _ h => h) (Or.inl ⟨by rfl, ?_⟩) hHeld ?_ ?_
        rotate_left
        · rintro w' ⟨s0, s1⟩
          go_simp
          with_reducible rfl
        rotate_left
        · simp only [Act.put, List.setIfInBounds_toArray, List.set_cons_zero, List.set_cons_succ, i64_w, i32_w]
          rfl
        refine take_ (i := 3) (N := some 15) (v := ?_) (a' := ?_) #[true, true, true, true, true, false, false, false, false, false] rfl rfl (take_ofW HT_.out HW_.out (by kernel_rfl)) (fun _ _ _ h => h) (Or.inl ⟨by rfl, ?_⟩) hHeld ?_ ?_
        rotate_left
        · rintro w' ⟨s0, s1⟩
          go_simp
          with_reducible rfl
        rotate_left
        · simp only [Act.put, List.setIfInBounds_toArray, List.set_cons_zero, List.set_cons_succ, i64_w, i32_w]
          rfl
        refine take_ (i := 5) (N := some 17) (v := ?_) (a' := ?_) #[true, true, true, true, true, true, false, false, false, false] rfl rfl (take_ofW HT_.out HW_.out (by kernel_rfl)) (fun _ _ _ h => h) (Or.inl ⟨by rfl, ?_⟩) hHeld ?_ ?_
        rotate_left
        · rintro w' ⟨s0, s1⟩
          go_simp
          with_reducible rfl
        rotate_left
        · simp only [Act.put, List.setIfInBounds_toArray, List.set_cons_zero, List.set_cons_succ, i64_w, i32_w]
          rfl
        refine pure_ (i := 6) (N := some 18) (v := ?_) (a' := ?_) #[true, true, true, true, true, true, true, false, false, false] rfl rfl (any_of HT_.out (by kernel_rfl)) (fun _ _ _ h => h) (Or.inl ⟨by rfl, ?_⟩) ?_ ?_
        rotate_left
        · intro w'
          go_simp
          with_reducible rfl
        rotate_left
        · simp only [Act.put, List.setIfInBounds_toArray, List.set_cons_zero, List.set_cons_succ, i64_w, i32_w]
          rfl
        refine one_ (i := 7) (N := some 19) #[true, true, true, true, true, true, true, true, false, false] rfl rfl (one_of HT_.out (by kernel_rfl)) (by decide) (fun K hK => ?_)
        refine goes_ Try.func39 (by kernel_rfl) rfl #[.int .u64 (IntKind.u64.wrap (a1_1 - a1_0))] (by rfl) rfl rfl (by (try simp only [List.map_toArray, List.map_cons, List.map_nil]); first | done | rfl | (simp only [List.length_drop, List.length_take]; rfl)) ?_
        with_reducible refine (spec_split.calls k (IntKind.u64.wrap (a1_1 - a1_0)) t209 _ A6.out).mono ?_
        rintro e w' ⟨rfl, ⟨nd, rfl⟩⟩
        refine ⟨_, rfl, ?_⟩
        refine hK.out _ _ ⟨(blk_cell BK208.out 0).trans rfl, (blk_cell BK208.out 1).trans rfl⟩ (fun hHeld => ?_)
        clear hK K
        refine norm_ (a' := ?_) ?_ ?_
        rotate_left
        · show Act.put _ (some 19) _ = _
          simp only [Act.put, List.setIfInBounds_toArray, List.set_cons_zero, List.set_cons_succ, i64_w, i32_w]
          rfl
        refine pure_ (i := 8) (N := some 20) (v := ?_) (a' := ?_) #[true, true, true, true, true, true, true, true, true, false] rfl rfl (any_of HT_.out (by kernel_rfl)) (fun _ _ _ h => h) (Or.inl ⟨by rfl, ?_⟩) ?_ ?_
        rotate_left
        · intro w'
          go_simp
          with_reducible rfl
        rotate_left
        · simp only [Act.put, List.setIfInBounds_toArray, List.set_cons_zero, List.set_cons_succ, i64_w, i32_w]
          rfl
        refine pure_ (i := 9) (N := some 5) (v := ?_) (a' := ?_) #[true, true, true, true, true, true, true, true, true, true] rfl rfl (any_of HT_.out (by kernel_rfl)) (fun _ _ _ h => h) (Or.inl ⟨by rfl, ?_⟩) ?_ ?_
        rotate_left
        · intro w'
          go_simp
          with_reducible rfl
        rotate_left
        · simp only [Act.put, List.setIfInBounds_toArray, List.set_cons_zero, List.set_cons_succ, i64_w, i32_w]
          rfl
        refine done_ (done_of HT_.out (by kernel_rfl)) ?_
        try go_wp2
        (try (rw [drewN_self w12]; generalize hq_ : World.drewN w12 _ = w12; have n0_ : Aside0 (w12.heap[gb208]? = some (.cells #[.int .u64 a1_0, .int .u64 a1_1] 48 (0, 0))) := ⟨by rw [← hq_]; exact (by (with_reducible repeat (first | refine blk_drewN ?_ _ | refine blk_drew ?_ | refine blk_alloc ?_ _)); exact BK208.out)⟩; have n1_ : Aside0 (Below w.heap.size w w12) := ⟨by rw [← hq_]; exact (by repeat (first | (with_reducible first | exact HB.out | apply below_alloc | apply pw_below_drewN | apply below_drew1 | refine below_set ?_ GE208.out) | exact HB.out))⟩; clear BK208 HB hq_; have BK208 := n0_; have HB := n1_; clear n0_ n1_))
        have n0_ := Aside0.mk (blk_drew BK208.out)
        have n1_ := Aside0.mk (below_drew1 HB.out)
        clear BK208
        clear HB
        have BK208 := n0_
        have HB := n1_
        clear n0_ n1_
        refine start_ (n := 13) (S := fun w' => w'.cell? ⟨gb208, 0, none⟩ = some (.int .u64 a1_0) ∧ w'.cell? ⟨gb208, 1, none⟩ = some (.int .u64 a1_1)) (ds := []) #[false, false, false, false, false, false, false, false, false, false, false, false, false] (by kernel_rfl) rfl rfl ⟨(blk_cell BK208.out 0).trans rfl, (blk_cell BK208.out 1).trans rfl⟩ (fun hHeld => ?_); refine with_tabW spec_pathIn.tab5 spec_pathIn.bits5 (fun HT_ HW_ => ?_)
        generalize w12.drew = w13 at BK208 HB hHeld ⊢
        refine pure_ (i := 0) (N := some 24) (v := ?_) (a' := ?_) #[true, false, false, false, false, false, false, false, false, false, false, false, false] rfl rfl (any_of HT_.out (by kernel_rfl)) (fun _ _ _ h => h) (Or.inl ⟨by rfl, ?_⟩) ?_ ?_
        rotate_left
        · intro w'
          go_simp
          with_reducible rfl
        rotate_left
        · simp only [Act.put, List.setIfInBounds_toArray, List.set_cons_zero, List.set_cons_succ, i64_w, i32_w]
          rfl
        refine pure_ (i := 1) (N := some 25) (v := ?_) (a' := ?_) #[true, true, false, false, false, false, false, false, false, false, false, false, false] rfl rfl (any_of HT_.out (by kernel_rfl)) (fun _ _ _ h => h) (Or.inl ⟨by rfl, ?_⟩) ?_ ?_
        rotate_left
        · intro w'
          go_simp
          with_reducible rfl
        rotate_left
        · simp only [Act.put, List.setIfInBounds_toArray, List.set_cons_zero, List.set_cons_succ, i64_w, i32_w]
          rfl
        refine pure_ (i := 3) (N := some 27) (v := ?_) (a' := ?_) #[true, true, false, true, false, false, false, false, false, false, false, false, false] rfl rfl (any_of HT_.out (by kernel_rfl)) (fun _ _ _ h => h) (Or.inl ⟨by rfl, ?_⟩) ?_ ?_
        rotate_left
        · intro w'
          go_simp
          with_reducible rfl
        rotate_left
        · simp only [Act.put, List.setIfInBounds_toArray, List.set_cons_zero, List.set_cons_succ, i64_w, i32_w]
          rfl
        refine pure_ (i := 6) (N := some 30) (v := ?_) (a' := ?_) #[true, true, false, true, false, false, true, false, false, false, false, false, false] rfl rfl (any_of HT_.out (by kernel_rfl)) (fun _ _ _ h => h) (Or.inl ⟨by rfl, ?_⟩) ?_ ?_
        rotate_left
        · intro w'
          go_simp
          with_reducible rfl
        rotate_left
        · simp only [Act.put, List.setIfInBounds_toArray, List.set_cons_zero, List.set_cons_succ, i64_w, i32_w]
          rfl
        refine pure_ (i := 7) (N := some 31) (v := ?_) (a' := ?_) #[true, true, false, true, false, false, true, true, false, false, false, false, false] rfl rfl (any_of HT_.out (by kernel_rfl)) (fun _ _ _ h => h) (Or.inl ⟨by rfl, ?_⟩) ?_ ?_
        rotate_left
        · intro w'
          go_simp
          with_reducible rfl
        rotate_left
        · simp only [Act.put, List.setIfInBounds_toArray, List.set_cons_zero, List.set_cons_succ, i64_w, i32_w]
          rfl
        refine take_ (i := 2) (N := some 26) (v := ?_) (a' := ?_) #[true, true, true, true, false, false, true, true, false, false, false, false, false] rfl rfl (take_ofW HT_.out HW_.out (by kernel_rfl)) (fun _ _ _ h => h) (Or.inl ⟨by rfl, ?_⟩) hHeld ?_ ?_
        rotate_left
        · rintro w' ⟨s0, s1⟩
          go_simp
          with_reducible rfl
        rotate_left
        · simp only [Act.put, List.setIfInBounds_toArray, List.set_cons_zero, List.set_cons_succ, i64_w, i32_w]
          rfl
        refine pure_ (i := 4) (N := some 28) (v := ?_) (a' := ?_) #[true, true, true, true, true, false, true, true, false, false, false, false, false] rfl rfl (any_of HT_.out (by kernel_rfl)) (fun _ _ _ h => h) (Or.inl ⟨by rfl, ?_⟩) ?_ ?_
        rotate_left
        · intro w'
          go_simp
          with_reducible rfl
        rotate_left
        · simp only [Act.put, List.setIfInBounds_toArray, List.set_cons_zero, List.set_cons_succ, i64_w, i32_w]
          rfl
        refine take_ (i := 8) (N := some 32) (v := ?_) (a' := ?_) #[true, true, true, true, true, false, true, true, true, false, false, false, false] rfl rfl (take_ofW HT_.out HW_.out (by kernel_rfl)) (fun _ _ _ h => h) (Or.inl ⟨by rfl, ?_⟩) hHeld ?_ ?_
        rotate_left
        · rintro w' ⟨s0, s1⟩
          go_simp
          with_reducible rfl
        rotate_left
        · simp only [Act.put, List.setIfInBounds_toArray, List.set_cons_zero, List.set_cons_succ, i64_w, i32_w]
          rfl
        refine pure_ (i := 9) (N := some 33) (v := ?_) (a' := ?_) #[true, true, true, true, true, false, true, true, true, true, false, false, false] rfl rfl (any_of HT_.out (by kernel_rfl)) (fun _ _ _ h => h) (Or.inl ⟨by rfl, ?_⟩) ?_ ?_
        rotate_left
        · intro w'
          go_simp
          with_reducible rfl
        rotate_left
        · simp only [Act.put, List.setIfInBounds_toArray, List.set_cons_zero, List.set_cons_succ, i64_w, i32_w]
          rfl
        refine join_ (σ := Value × Value) 2 #[true, true, true, true, true, true, true, true, true, true, true, false, false] (fun s_ => [(29, s_.1), (34, s_.2)]) (fun s_ w' => (w'.cell? ⟨gb208, 0, none⟩ = some (.int .u64 a1_0) ∧ w'.cell? ⟨gb208, 1, none⟩ = some (.int .u64 a1_1)) ∧ (Kd.R k48 48 w' w.heap.size (fun k_ => some k_ ≠ (s_.2 : Value).ownBlock ∧ k_ ≠ gb208) s_.1 t210) ∧ (Kd.R k48 48 w' w.heap.size (fun k_ => some k_ ≠ (s_.1 : Value).ownBlock ∧ k_ ≠ gb208) s_.2 y213) ∧ (w'.heap[gb208]? = some (.cells #[.int .u64 a1_0, .int .u64 a1_1] 48 (0, 0))) ∧ (Below w.heap.size w w')) ?_ ?_
        rotate_left
        · intro hCont
          refine two_ (i := 5) (j := 10) (Ni := some 29) (Nj := some 34) #[true, true, true, true, true, true, true, true, true, true, false, false, false] #[true, true, true, true, true, false, true, true, true, true, true, false, false] rfl rfl rfl rfl (two_of HT_.out (by kernel_rfl)) (by decide) (by decide) (fun K hK => ?_) (fun K hK => ?_)
          · skip
            refine goes_ Try.func26 (by kernel_rfl) rfl #[.int .u64 a0, .agg #[.int .u64 a1_0, .int .u64 (IntKind.u64.wrap (a1_0 + t209))]] (by rfl) rfl rfl (by (try simp only [List.map_toArray, List.map_cons, List.map_nil]); first | done | rfl | (simp only [List.length_drop, List.length_take]; rfl)) ?_
            with_reducible refine (ih k (by omega) a0 a1_0 (IntKind.u64.wrap (a1_0 + t209)) t210 _ A8.out).mono ?_
            rintro e w14 ⟨v211, rfl, ho0, hb⟩
            refine ⟨_, rfl, ?_⟩
            have n0_ := Aside0.mk (Kd.R_lower (Kd.R_newB ho0 (g := gb208) (o := .cells #[.int .u64 a1_0, .int .u64 a1_1] 48 (0, 0)) (by (with_reducible repeat (first | refine blk_drewN ?_ _ | refine blk_drew ?_ | refine blk_alloc ?_ _)); exact BK208.out)) (below_size (by repeat (first | (with_reducible first | exact HB.out | apply below_alloc | apply pw_below_drewN | apply below_drew1 | refine below_set ?_ GE208.out) | exact HB.out))))
            have n1_ := Aside0.mk (blk_below (g := gb208) (o := .cells #[.int .u64 a1_0, .int .u64 a1_1] 48 (0, 0)) (by (with_reducible repeat (first | refine blk_drewN ?_ _ | refine blk_drew ?_ | refine blk_alloc ?_ _)); exact BK208.out) hb)
            have n2_ := Aside0.mk (below_step (by repeat (first | (with_reducible first | exact HB.out | apply below_alloc | apply pw_below_drewN | apply below_drew1 | refine below_set ?_ GE208.out) | exact HB.out)) hb)
            clear BK208
            clear HB
            have HO212 := n0_
            have BK208 := n1_
            have HB := n2_
            clear n0_ n1_ n2_
            (try clear hb)
            (try clear hb2)
            (try clear hk)
            (try clear hi)
            (try clear ho0)
            refine hK.out _ _ ⟨(blk_cell BK208.out 0).trans rfl, (blk_cell BK208.out 1).trans rfl⟩ (fun hHeld => ?_)
            clear hK K
            refine norm_ (a' := ?_) ?_ ?_
            rotate_left
            · show Act.put _ (some 29) _ = _
              simp only [Act.put, List.setIfInBounds_toArray, List.set_cons_zero, List.set_cons_succ, i64_w, i32_w]
              rfl
            refine one_ (i := 10) (N := some 34) #[true, true, true, true, true, true, true, true, true, true, true, false, false] rfl rfl (one_of HT_.out (by kernel_rfl)) (by decide) (fun K hK => ?_)
            refine Kd.R_lit_step k48 _ 48 ?hg (N := 34) ?hd (xs := ([(⟨IntKind.u64.wrap (a1_0 + t209), a1_1⟩ : S48)] : List (S48))) (inner := [.int .u64 (IntKind.u64.wrap (a1_0 + t209)), .int .u64 a1_1]) (ok := fun _ => True) (okp := fun _ => True) ?hr ?hp (fun _ hk => hk) trivial (Below.refl _ _) (Nat.le_refl _) (by simp) ?_; (case hd => rfl); (case hg => rfl); (case hr => first | (go_simp; done) | (go_simp; rfl)); (case hp => exact (Reps.c2 (show Kd.M k48 _ _ _ (⟨IntKind.u64.wrap (a1_0 + t209), a1_1⟩ : S48) [.int .u64 (IntKind.u64.wrap (a1_0 + t209)), .int .u64 a1_1] from (k48_mkM _ _ _ (⟨IntKind.u64.wrap (a1_0 + t209), a1_1⟩ : S48) )) (Reps.none _ _)))
            intro v214 w15 ho16 hb hg_ hnew_
            clear hg_ hnew_
            (first | rw [← Ny213.out] at ho16 | (simp only [Int.reduceToNat] at ho16; rw [← Ny213.out] at ho16))
            have n0_ := Aside0.mk (Kd.R_elder' (by (with_reducible repeat (first | apply Kd.R_alloc | apply Kd.R_drewN | apply Kd.R_drew)); exact HO212.out) (Kd.R_base ho16) hb)
            have n1_ := Aside0.mk (Kd.R_lower (Kd.R_newB (Kd.R_new' ho16 (Kd.R_lt (by (with_reducible repeat (first | apply Kd.R_alloc | apply Kd.R_drewN | apply Kd.R_drew)); exact HO212.out))) (g := gb208) (o := .cells #[.int .u64 a1_0, .int .u64 a1_1] 48 (0, 0)) (by (with_reducible repeat (first | refine blk_drewN ?_ _ | refine blk_drew ?_ | refine blk_alloc ?_ _)); exact BK208.out)) (below_size (by repeat (first | (with_reducible first | exact HB.out | apply below_alloc | apply pw_below_drewN | apply below_drew1 | refine below_set ?_ GE208.out) | exact HB.out))))
            have n2_ := Aside0.mk (blk_below (g := gb208) (o := .cells #[.int .u64 a1_0, .int .u64 a1_1] 48 (0, 0)) (by (with_reducible repeat (first | refine blk_drewN ?_ _ | refine blk_drew ?_ | refine blk_alloc ?_ _)); exact BK208.out) hb)
            have n3_ := Aside0.mk (below_step (by repeat (first | (with_reducible first | exact HB.out | apply below_alloc | apply pw_below_drewN | apply below_drew1 | refine below_set ?_ GE208.out) | exact HB.out)) hb)
            clear HO212
            clear BK208
            clear HB
            have HO212 := n0_
            have HO215 := n1_
            have BK208 := n2_
            have HB := n3_
            clear n0_ n1_ n2_ n3_
            clear hb ho16
            refine hK.out _ _ ⟨(blk_cell BK208.out 0).trans rfl, (blk_cell BK208.out 1).trans rfl⟩ (fun hHeld => ?_)
            clear hK K
            refine norm_ (a' := ?_) ?_ ?_
            rotate_left
            · show Act.put _ (some 34) _ = _
              simp only [Act.put, List.setIfInBounds_toArray, List.set_cons_zero, List.set_cons_succ, i64_w, i32_w]
              rfl
            exact norm_ (by simp only [putAll, Act.put, List.setIfInBounds_toArray, List.set_cons_zero, List.set_cons_succ]) (hCont (v211, v214) _ ⟨hHeld, (by (with_reducible repeat (first | apply Kd.R_alloc | apply Kd.R_drewN | apply Kd.R_drew)); exact Kd.R_mono HO212.out (fun _ hk => ⟨hk.2, hk.1.2⟩)), (by (with_reducible repeat (first | apply Kd.R_alloc | apply Kd.R_drewN | apply Kd.R_drew)); exact Kd.R_mono HO215.out (fun _ hk => ⟨hk.1.2, hk.2⟩)), (by (with_reducible repeat (first | refine blk_drewN ?_ _ | refine blk_drew ?_ | refine blk_alloc ?_ _)); exact BK208.out), (by repeat (first | (with_reducible first | exact HB.out | apply below_alloc | apply pw_below_drewN | apply below_drew1 | refine below_set ?_ GE208.out) | exact HB.out))⟩)
          · skip
            refine Kd.R_lit_step k48 _ 48 ?hg (N := 34) ?hd (xs := ([(⟨IntKind.u64.wrap (a1_0 + t209), a1_1⟩ : S48)] : List (S48))) (inner := [.int .u64 (IntKind.u64.wrap (a1_0 + t209)), .int .u64 a1_1]) (ok := fun _ => True) (okp := fun _ => True) ?hr ?hp (fun _ hk => hk) trivial (Below.refl _ _) (Nat.le_refl _) (by simp) ?_; (case hd => rfl); (case hg => rfl); (case hr => first | (go_simp; done) | (go_simp; rfl)); (case hp => exact (Reps.c2 (show Kd.M k48 _ _ _ (⟨IntKind.u64.wrap (a1_0 + t209), a1_1⟩ : S48) [.int .u64 (IntKind.u64.wrap (a1_0 + t209)), .int .u64 a1_1] from (k48_mkM _ _ _ (⟨IntKind.u64.wrap (a1_0 + t209), a1_1⟩ : S48) )) (Reps.none _ _)))
            intro v214 w14 ho15 hb hg_ hnew_
            clear hg_ hnew_
            (first | rw [← Ny213.out] at ho15 | (simp only [Int.reduceToNat] at ho15; rw [← Ny213.out] at ho15))
            have n0_ := Aside0.mk (Kd.R_lower (Kd.R_newB ho15 (g := gb208) (o := .cells #[.int .u64 a1_0, .int .u64 a1_1] 48 (0, 0)) (by (with_reducible repeat (first | refine blk_drewN ?_ _ | refine blk_drew ?_ | refine blk_alloc ?_ _)); exact BK208.out)) (below_size (by repeat (first | (with_reducible first | exact HB.out | apply below_alloc | apply pw_below_drewN | apply below_drew1 | refine below_set ?_ GE208.out) | exact HB.out))))
            have n1_ := Aside0.mk (blk_below (g := gb208) (o := .cells #[.int .u64 a1_0, .int .u64 a1_1] 48 (0, 0)) (by (with_reducible repeat (first | refine blk_drewN ?_ _ | refine blk_drew ?_ | refine blk_alloc ?_ _)); exact BK208.out) hb)
            have n2_ := Aside0.mk (below_step (by repeat (first | (with_reducible first | exact HB.out | apply below_alloc | apply pw_below_drewN | apply below_drew1 | refine below_set ?_ GE208.out) | exact HB.out)) hb)
            clear BK208
            clear HB
            have HO215 := n0_
            have BK208 := n1_
            have HB := n2_
            clear n0_ n1_ n2_
            clear hb ho15
            refine hK.out _ _ ⟨(blk_cell BK208.out 0).trans rfl, (blk_cell BK208.out 1).trans rfl⟩ (fun hHeld => ?_)
            clear hK K
            refine norm_ (a' := ?_) ?_ ?_
            rotate_left
            · show Act.put _ (some 34) _ = _
              simp only [Act.put, List.setIfInBounds_toArray, List.set_cons_zero, List.set_cons_succ, i64_w, i32_w]
              rfl
            refine one_ (i := 5) (N := some 29) #[true, true, true, true, true, true, true, true, true, true, true, false, false] rfl rfl (one_of HT_.out (by kernel_rfl)) (by decide) (fun K hK => ?_)
            refine goes_ Try.func26 (by kernel_rfl) rfl #[.int .u64 a0, .agg #[.int .u64 a1_0, .int .u64 (IntKind.u64.wrap (a1_0 + t209))]] (by rfl) rfl rfl (by (try simp only [List.map_toArray, List.map_cons, List.map_nil]); first | done | rfl | (simp only [List.length_drop, List.length_take]; rfl)) ?_
            with_reducible refine (ih k (by omega) a0 a1_0 (IntKind.u64.wrap (a1_0 + t209)) t210 _ A8.out).mono ?_
            rintro e w16 ⟨v211, rfl, ho0, hb⟩
            refine ⟨_, rfl, ?_⟩
            have n0_ := Aside0.mk (Kd.R_elder' (by (with_reducible repeat (first | apply Kd.R_alloc | apply Kd.R_drewN | apply Kd.R_drew)); exact HO215.out) (Kd.R_base ho0) hb)
            have n1_ := Aside0.mk (Kd.R_lower (Kd.R_newB (Kd.R_new' ho0 (Kd.R_lt (by (with_reducible repeat (first | apply Kd.R_alloc | apply Kd.R_drewN | apply Kd.R_drew)); exact HO215.out))) (g := gb208) (o := .cells #[.int .u64 a1_0, .int .u64 a1_1] 48 (0, 0)) (by (with_reducible repeat (first | refine blk_drewN ?_ _ | refine blk_drew ?_ | refine blk_alloc ?_ _)); exact BK208.out)) (below_size (by repeat (first | (with_reducible first | exact HB.out | apply below_alloc | apply pw_below_drewN | apply below_drew1 | refine below_set ?_ GE208.out) | exact HB.out))))
            have n2_ := Aside0.mk (blk_below (g := gb208) (o := .cells #[.int .u64 a1_0, .int .u64 a1_1] 48 (0, 0)) (by (with_reducible repeat (first | refine blk_drewN ?_ _ | refine blk_drew ?_ | refine blk_alloc ?_ _)); exact BK208.out) hb)
            have n3_ := Aside0.mk (below_step (by repeat (first | (with_reducible first | exact HB.out | apply below_alloc | apply pw_below_drewN | apply below_drew1 | refine below_set ?_ GE208.out) | exact HB.out)) hb)
            clear HO215
            clear BK208
            clear HB
            have HO215 := n0_
            have HO212 := n1_
            have BK208 := n2_
            have HB := n3_
            clear n0_ n1_ n2_ n3_
            (try clear hb)
            (try clear hb2)
            (try clear hk)
            (try clear hi)
            (try clear ho0)
            refine hK.out _ _ ⟨(blk_cell BK208.out 0).trans rfl, (blk_cell BK208.out 1).trans rfl⟩ (fun hHeld => ?_)
            clear hK K
            refine norm_ (a' := ?_) ?_ ?_
            rotate_left
            · show Act.put _ (some 29) _ = _
              simp only [Act.put, List.setIfInBounds_toArray, List.set_cons_zero, List.set_cons_succ, i64_w, i32_w]
              rfl
            exact norm_ (by simp only [putAll, Act.put, List.setIfInBounds_toArray, List.set_cons_zero, List.set_cons_succ]) (hCont (v211, v214) _ ⟨hHeld, (by (with_reducible repeat (first | apply Kd.R_alloc | apply Kd.R_drewN | apply Kd.R_drew)); exact Kd.R_mono HO212.out (fun _ hk => ⟨hk.1.2, hk.2⟩)), (by (with_reducible repeat (first | apply Kd.R_alloc | apply Kd.R_drewN | apply Kd.R_drew)); exact Kd.R_mono HO215.out (fun _ hk => ⟨hk.2, hk.1.2⟩)), (by (with_reducible repeat (first | refine blk_drewN ?_ _ | refine blk_drew ?_ | refine blk_alloc ?_ _)); exact BK208.out), (by repeat (first | (with_reducible first | exact HB.out | apply below_alloc | apply pw_below_drewN | apply below_drew1 | refine below_set ?_ GE208.out) | exact HB.out))⟩)
        rintro ⟨v211, v214⟩ w17 ⟨hS_, h0_, h1_, h2_, h3_⟩
        have n0_ : Aside0 (Kd.R k48 48 w17 w.heap.size (fun k_ => some k_ ≠ (v214 : Value).ownBlock ∧ k_ ≠ gb208) v211 t210) := ⟨h0_⟩
        have n1_ : Aside0 (Kd.R k48 48 w17 w.heap.size (fun k_ => some k_ ≠ (v211 : Value).ownBlock ∧ k_ ≠ gb208) v214 y213) := ⟨h1_⟩
        have n2_ : Aside0 (w17.heap[gb208]? = some (.cells #[.int .u64 a1_0, .int .u64 a1_1] 48 (0, 0))) := ⟨h2_⟩
        have n3_ : Aside0 (Below w.heap.size w w17) := ⟨h3_⟩
        clear BK208
        clear HB
        clear h0_ h1_ h2_ h3_
        have HO212 := n0_
        have HO215 := n1_
        have BK208 := n2_
        have HB := n3_
        clear n0_ n1_ n2_ n3_
        have hHeld : w17.cell? ⟨gb208, 0, none⟩ = some (.int .u64 a1_0) ∧ w17.cell? ⟨gb208, 1, none⟩ = some (.int .u64 a1_1) := hS_
        obtain ⟨Ao19, co19, eo19⟩ := Kd.R_slice HO215.out
        (first | subst eo19 | (injection eo19 with f1_ f2_ f3_; have f4_ := f1_.symm; have f5_ := f3_.symm; clear f1_ f2_ f3_; subst f4_; subst f5_))
        refine norm_ (a' := ?_) ?_ ?_
        rotate_left
        · simp only [putAll, Act.put, List.setIfInBounds_toArray, List.set_cons_zero, List.set_cons_succ]
          rfl
        refine one_ (i := 11) (N := some 35) #[true, true, true, true, true, true, true, true, true, true, true, true, false] rfl rfl (one_of HT_.out (by kernel_rfl)) (by decide) (fun K hK => ?_)
        refine Kd.R_append_rows_step k48 (w0 := w) w.heap.size (by rfl) (.tmp 29) (.tmp 34) 32 48 (.agg #[(.int .u64 0), (.int .u64 0)]) 16 rfl Try.underlying32 info48 rfl (by decide) (by omega) v211 t210 y213 _ _ _ (fun k_ => some k_ ≠ (.slice Ao19 y213.length co19 : Value).ownBlock ∧ k_ ≠ gb208) (fun _ => False) rfl rfl ?aO ?aR (fun _ _ h => h) (fun _ h => h.elim) ?aF ?aB ?aS ?aL ?_
        (case aR => repeat (first | exact (Kd.R_reads' HO215.out).2.2 | (with_reducible refine Kd.C_alloc ?_ _) | (with_reducible refine Kd.C_drewN ?_ _) | (with_reducible refine Kd.C_drew ?_)))
        (case aB => exact (by repeat (first | (with_reducible first | exact HB.out | apply below_alloc | apply pw_below_drewN | apply below_drew1 | refine below_set ?_ GE208.out) | exact HB.out)))
        (case aF => exact (fun k_ hk => ⟨Kd.fresh' (Kd.R_lt (by (with_reducible repeat (first | apply Kd.R_alloc | apply Kd.R_drewN | apply Kd.R_drew)); exact HO215.out)) k_ hk, Kd.freshB (g := gb208) (o := .cells #[.int .u64 a1_0, .int .u64 a1_1] 48 (0, 0)) (by (with_reducible repeat (first | refine blk_drewN ?_ _ | refine blk_drew ?_ | refine blk_alloc ?_ _)); exact BK208.out) k_ hk⟩))
        (case aO => exact (by (with_reducible repeat (first | apply Kd.R_alloc | apply Kd.R_drewN | apply Kd.R_drew)); exact HO212.out))
        (case aS => exact (below_size (by repeat (first | (with_reducible first | exact HB.out | apply below_alloc | apply pw_below_drewN | apply below_drew1 | refine below_set ?_ GE208.out) | exact HB.out))))
        (case aL => have := LMc9.out; omega)
        intro v217 w18 ho hb hg hat
        rw [← Ny216.out] at ho
        have n0_ := Aside0.mk (blk_grown (g := gb208) (o := .cells #[.int .u64 a1_0, .int .u64 a1_1] 48 (0, 0)) (by (with_reducible repeat (first | refine blk_drewN ?_ _ | refine blk_drew ?_ | refine blk_alloc ?_ _)); exact BK208.out) hg (Kd.R_away HO212.out (fun _ hk => hk.2)))
        have n1_ := Aside0.mk (Kd.R_after (ok := (fun k_ => k_ ≠ gb208)) (by (with_reducible repeat (first | apply Kd.R_alloc | apply Kd.R_drewN | apply Kd.R_drew)); exact Kd.R_mono HO215.out (fun _ hk => ⟨hk.2, hk.1⟩)) hg hat)
        have n2_ := Aside0.mk (hb)
        have n3_ := Aside0.mk (ho)
        clear BK208
        clear HO215
        clear HB
        clear HO212
        have BK208 := n0_
        have HO215 := n1_
        have HB := n2_
        have HO218 := n3_
        clear n0_ n1_ n2_ n3_
        clear ho hb hg hat
        refine hK.out _ _ ⟨(blk_cell BK208.out 0).trans rfl, (blk_cell BK208.out 1).trans rfl⟩ (fun hHeld => ?_)
        clear hK K
        refine norm_ (a' := ?_) ?_ ?_
        rotate_left
        · show Act.put _ (some 35) _ = _
          simp only [Act.put, List.setIfInBounds_toArray, List.set_cons_zero, List.set_cons_succ, i64_w, i32_w]
          rfl
        refine pure_ (i := 12) (N := some 4) (v := ?_) (a' := ?_) #[true, true, true, true, true, true, true, true, true, true, true, true, true] rfl rfl (any_of HT_.out (by kernel_rfl)) (fun _ _ _ h => h) (Or.inl ⟨by rfl, ?_⟩) ?_ ?_
        rotate_left
        · intro w'
          go_simp
          with_reducible rfl
        rotate_left
        · simp only [Act.put, List.setIfInBounds_toArray, List.set_cons_zero, List.set_cons_succ, i64_w, i32_w]
          rfl
        refine done_ (done_of HT_.out (by kernel_rfl)) ?_
        try go_wp2
        go_ret
        exact ⟨_, by first | rfl | (simp [errW_none, errW_some] <;> rfl) | (simp [*, errW_none, errW_some] <;> rfl), by (with_reducible repeat (first | apply Kd.R_alloc | apply Kd.R_drewN | apply Kd.R_drew)); exact Kd.R_mono HO218.out (fun _ hk => trivial), by repeat (first | (with_reducible first | exact HB.out | apply below_alloc | apply pw_below_drewN | apply below_drew1 | refine below_set ?_ GE208.out) | exact HB.out)⟩
      · rw [if_neg c9] at H
        exact absurd H (by simp)
    · rw [if_neg c7] at H
      have c7b0 : decide (a0 < (IntKind.u64.wrap (a1_0 + t209))) = false := decide_eq_false c7
      clear c7
      replace H := Option.bind_eq_some_iff.mp H
      obtain ⟨t219, A200, H⟩ := H
      replace H : ((some (([(⟨a1_0, IntKind.u64.wrap (a1_0 + t209)⟩ : S48)] : List (S48)) : List (S48))).bind fun y222 => (if t219.length + y222.length < 8796093022208 then (some (t219 ++ y222)) else (none))) = some r := H
      have A20 := Aside0.mk A200
      clear A200
      obtain ⟨y222, hy222⟩ : ∃ y_ : List (S48), y_ = (([(⟨a1_0, IntKind.u64.wrap (a1_0 + t209)⟩ : S48)] : List (S48))) := ⟨_, rfl⟩
      replace H : (if t219.length + y222.length < 8796093022208 then (some (t219 ++ y222)) else (none)) = some r := by first | (rw [hy222]; with_reducible exact H) | (have H2_ := (Option.bind_some _ _).symm.trans H; rw [hy222]; with_reducible exact H2_) | (have H2_ := (Option.bind_some _ _).symm.trans H; with_reducible exact H2_) | with_reducible exact H | (rw [hy222]; exact H) | exact H
      have Ny222 := Aside0.mk hy222
      clear hy222
      by_cases c21 : t219.length + y222.length < 8796093022208
      · rw [if_pos c21] at H
        have LMc21 := Aside0.mk c21
        clear c21
        obtain ⟨y225, hy225⟩ : ∃ y_ : List (S48), y_ = (t219 ++ y222) := ⟨_, rfl⟩
        replace H : (some y225) = some r := by first | (rw [hy225]; with_reducible exact H) | (have H2_ := (Option.bind_some _ _).symm.trans H; rw [hy225]; with_reducible exact H2_) | (have H2_ := (Option.bind_some _ _).symm.trans H; with_reducible exact H2_) | with_reducible exact H | (rw [hy225]; exact H) | exact H
        have Ny225 := Aside0.mk hy225
        clear hy225
        obtain rfl := Option.some.inj H
        go_enter Try.func26, Try.ntmps26
        try go_wp2_with (first | ((with_reducible refine gate_dst (N := 3) rfl ?_); refine box_event ?hg (N := 3) ?hd (cs := #[.int .u64 a1_0, .int .u64 a1_1]) (t := 48) ?hr ?_; (case hd => rfl); (case hg => rfl); (case hr => first | (go_simp; done) | (go_simp; rfl)); intro gb208 hg w22 hbox hb; have n0_ := Aside0.mk (below_step (by repeat (first | (with_reducible first | exact HB.out | apply below_alloc | apply pw_below_drewN | apply below_drew1) | exact HB.out)) hb); have n1_ := Aside0.mk (hbox); have n2_ := Aside0.mk ((by rw [hg]; exact (below_size (by repeat (first | (with_reducible first | exact HB.out | apply below_alloc | apply pw_below_drewN | apply below_drew1) | exact HB.out))) : w.heap.size ≤ gb208)); have n3_ := Aside0.mk ((by rw [hg]; exact (below_size (by repeat (first | (with_reducible first | exact HB.out | apply below_alloc | apply pw_below_drewN | apply below_drew1) | exact HB.out))) : w.heap.size ≤ gb208)); clear HB; have HB := n0_; have BK208 := n1_; have GW208 := n2_; have GE208 := n3_; clear n0_ n1_ n2_ n3_; clear hb hbox hg; have hcz23_0 : w22.cell? ⟨gb208, 0, none⟩ = some (.int .u64 a1_0) := (blk_cell BK208.out 0).trans rfl; have hcz23_1 : w22.cell? ⟨gb208, 1, none⟩ = some (.int .u64 a1_1) := (blk_cell BK208.out 1).trans rfl; have hfz23_0 := blk_frozen BK208.out 0; have hfz23_1 := blk_frozen BK208.out 1))
        have n0_ := Aside0.mk (blk_drew BK208.out)
        have n1_ := Aside0.mk (below_drew1 HB.out)
        clear BK208
        clear HB
        have BK208 := n0_
        have HB := n1_
        clear n0_ n1_
        refine start_ (n := 10) (S := fun w' => w'.cell? ⟨gb208, 0, none⟩ = some (.int .u64 a1_0) ∧ w'.cell? ⟨gb208, 1, none⟩ = some (.int .u64 a1_1)) (ds := []) #[false, false, false, false, false, false, false, false, false, false] (by kernel_rfl) rfl rfl ⟨(blk_cell BK208.out 0).trans rfl, (blk_cell BK208.out 1).trans rfl⟩ (fun hHeld => ?_); refine with_tabW spec_pathIn.tab3 spec_pathIn.bits3 (fun HT_ HW_ => ?_)
        generalize w22.drew = w24 at BK208 HB hHeld ⊢
        refine pure_ (i := 0) (N := some 12) (v := ?_) (a' := ?_) #[true, false, false, false, false, false, false, false, false, false] rfl rfl (any_of HT_.out (by kernel_rfl)) (fun _ _ _ h => h) (Or.inl ⟨by rfl, ?_⟩) ?_ ?_
        rotate_left
        · intro w'
          go_simp
          with_reducible rfl
        rotate_left
        · simp only [Act.put, List.setIfInBounds_toArray, List.set_cons_zero, List.set_cons_succ, i64_w, i32_w]
          rfl
        refine pure_ (i := 2) (N := some 14) (v := ?_) (a' := ?_) #[true, false, true, false, false, false, false, false, false, false] rfl rfl (any_of HT_.out (by kernel_rfl)) (fun _ _ _ h => h) (Or.inl ⟨by rfl, ?_⟩) ?_ ?_
        rotate_left
        · intro w'
          go_simp
          with_reducible rfl
        rotate_left
        · simp only [Act.put, List.setIfInBounds_toArray, List.set_cons_zero, List.set_cons_succ, i64_w, i32_w]
          rfl
        refine pure_ (i := 4) (N := some 16) (v := ?_) (a' := ?_) #[true, false, true, false, true, false, false, false, false, false] rfl rfl (any_of HT_.out (by kernel_rfl)) (fun _ _ _ h => h) (Or.inl ⟨by rfl, ?_⟩) ?_ ?_
        rotate_left
        · intro w'
          go_simp
          with_reducible rfl
        rotate_left
        · simp only [Act.put, List.setIfInBounds_toArray, List.set_cons_zero, List.set_cons_succ, i64_w, i32_w]
          rfl
        refine take_ (i := 1) (N := some 13) (v := ?_) (a' := ?_) #[true, true, true, false, true, false, false, false, false, false] rfl rfl (take_ofW HT_.out HW_.out (by kernel_rfl)) (fun _ _ _ h => h) (Or.inl ⟨by rfl, ?_⟩) hHeld ?_ ?_
        rotate_left
        · rintro w' ⟨s0, s1⟩
          go_simp
          with_reducible rfl
        rotate_left
        · simp only [Act.put, List.setIfInBounds_toArray, List.set_cons_zero, List.set_cons_succ, i64_w, i32_w]
          rfl
        refine take_ (i := 3) (N := some 15) (v := ?_) (a' := ?_) #[true, true, true, true, true, false, false, false, false, false] rfl rfl (take_ofW HT_.out HW_.out (by kernel_rfl)) (fun _ _ _ h => h) (Or.inl ⟨by rfl, ?_⟩) hHeld ?_ ?_
        rotate_left
        · rintro w' ⟨s0, s1⟩
          go_simp
          with_reducible rfl
        rotate_left
        · simp only [Act.put, List.setIfInBounds_toArray, List.set_cons_zero, List.set_cons_succ, i64_w, i32_w]
          rfl
        refine take_ (i := 5) (N := some 17) (v := ?_) (a' := ?_) #[true, true, true, true, true, true, false, false, false, false] rfl rfl (take_ofW HT_.out HW_.out (by kernel_rfl)) (fun _ _ _ h => h) (Or.inl ⟨by rfl, ?_⟩) hHeld ?_ ?_
        rotate_left
        · rintro w' ⟨s0, s1⟩
          go_simp
          with_reducible rfl
        rotate_left
        · simp only [Act.put, List.setIfInBounds_toArray, List.set_cons_zero, List.set_cons_succ, i64_w, i32_w]
          rfl
        refine pure_ (i := 6) (N := some 18) (v := ?_) (a' := ?_) #[true, true, true, true, true, true, true, false, false, false] rfl rfl (any_of HT_.out (by kernel_rfl)) (fun _ _ _ h => h) (Or.inl ⟨by rfl, ?_⟩) ?_ ?_
        rotate_left
        · intro w'
          go_simp
          with_reducible rfl
        rotate_left
        · simp only [Act.put, List.setIfInBounds_toArray, List.set_cons_zero, List.set_cons_succ, i64_w, i32_w]
          rfl
        refine one_ (i := 7) (N := some 19) #[true, true, true, true, true, true, true, true, false, false] rfl rfl (one_of HT_.out (by kernel_rfl)) (by decide) (fun K hK => ?_)
        refine goes_ Try.func39 (by kernel_rfl) rfl #[.int .u64 (IntKind.u64.wrap (a1_1 - a1_0))] (by rfl) rfl rfl (by (try simp only [List.map_toArray, List.map_cons, List.map_nil]); first | done | rfl | (simp only [List.length_drop, List.length_take]; rfl)) ?_
        with_reducible refine (spec_split.calls k (IntKind.u64.wrap (a1_1 - a1_0)) t209 _ A6.out).mono ?_
        rintro e w' ⟨rfl, ⟨nd, rfl⟩⟩
        refine ⟨_, rfl, ?_⟩
        refine hK.out _ _ ⟨(blk_cell BK208.out 0).trans rfl, (blk_cell BK208.out 1).trans rfl⟩ (fun hHeld => ?_)
        clear hK K
        refine norm_ (a' := ?_) ?_ ?_
        rotate_left
        · show Act.put _ (some 19) _ = _
          simp only [Act.put, List.setIfInBounds_toArray, List.set_cons_zero, List.set_cons_succ, i64_w, i32_w]
          rfl
        refine pure_ (i := 8) (N := some 20) (v := ?_) (a' := ?_) #[true, true, true, true, true, true, true, true, true, false] rfl rfl (any_of HT_.out (by kernel_rfl)) (fun _ _ _ h => h) (Or.inl ⟨by rfl, ?_⟩) ?_ ?_
        rotate_left
        · intro w'
          go_simp
          with_reducible rfl
        rotate_left
        · simp only [Act.put, List.setIfInBounds_toArray, List.set_cons_zero, List.set_cons_succ, i64_w, i32_w]
          rfl
        refine pure_ (i := 9) (N := some 5) (v := ?_) (a' := ?_) #[true, true, true, true, true, true, true, true, true, true] rfl rfl (any_of HT_.out (by kernel_rfl)) (fun _ _ _ h => h) (Or.inl ⟨by rfl, ?_⟩) ?_ ?_
        rotate_left
        · intro w'
          go_simp
          with_reducible rfl
        rotate_left
        · simp only [Act.put, List.setIfInBounds_toArray, List.set_cons_zero, List.set_cons_succ, i64_w, i32_w]
          rfl
        refine done_ (done_of HT_.out (by kernel_rfl)) ?_
        try go_wp2
        (try (rw [drewN_self w24]; generalize hq_ : World.drewN w24 _ = w24; have n0_ : Aside0 (w24.heap[gb208]? = some (.cells #[.int .u64 a1_0, .int .u64 a1_1] 48 (0, 0))) := ⟨by rw [← hq_]; exact (by (with_reducible repeat (first | refine blk_drewN ?_ _ | refine blk_drew ?_ | refine blk_alloc ?_ _)); exact BK208.out)⟩; have n1_ : Aside0 (Below w.heap.size w w24) := ⟨by rw [← hq_]; exact (by repeat (first | (with_reducible first | exact HB.out | apply below_alloc | apply pw_below_drewN | apply below_drew1 | refine below_set ?_ GE208.out) | exact HB.out))⟩; clear BK208 HB hq_; have BK208 := n0_; have HB := n1_; clear n0_ n1_))
        have n0_ := Aside0.mk (blk_drew BK208.out)
        have n1_ := Aside0.mk (below_drew1 HB.out)
        clear BK208
        clear HB
        have BK208 := n0_
        have HB := n1_
        clear n0_ n1_
        refine start_ (n := 13) (S := fun w' => w'.cell? ⟨gb208, 0, none⟩ = some (.int .u64 a1_0) ∧ w'.cell? ⟨gb208, 1, none⟩ = some (.int .u64 a1_1)) (ds := []) #[false, false, false, false, false, false, false, false, false, false, false, false, false] (by kernel_rfl) rfl rfl ⟨(blk_cell BK208.out 0).trans rfl, (blk_cell BK208.out 1).trans rfl⟩ (fun hHeld => ?_); refine with_tabW spec_pathIn.tab6 spec_pathIn.bits6 (fun HT_ HW_ => ?_)
        generalize w24.drew = w25 at BK208 HB hHeld ⊢
        refine pure_ (i := 0) (N := some 36) (v := ?_) (a' := ?_) #[true, false, false, false, false, false, false, false, false, false, false, false, false] rfl rfl (any_of HT_.out (by kernel_rfl)) (fun _ _ _ h => h) (Or.inl ⟨by rfl, ?_⟩) ?_ ?_
        rotate_left
        · intro w'
          go_simp
          with_reducible rfl
        rotate_left
        · simp only [Act.put, List.setIfInBounds_toArray, List.set_cons_zero, List.set_cons_succ, i64_w, i32_w]
          rfl
        refine pure_ (i := 1) (N := some 37) (v := ?_) (a' := ?_) #[true, true, false, false, false, false, false, false, false, false, false, false, false] rfl rfl (any_of HT_.out (by kernel_rfl)) (fun _ _ _ h => h) (Or.inl ⟨by rfl, ?_⟩) ?_ ?_
        rotate_left
        · intro w'
          go_simp
          with_reducible rfl
        rotate_left
        · simp only [Act.put, List.setIfInBounds_toArray, List.set_cons_zero, List.set_cons_succ, i64_w, i32_w]
          rfl
        refine pure_ (i := 2) (N := some 38) (v := ?_) (a' := ?_) #[true, true, true, false, false, false, false, false, false, false, false, false, false] rfl rfl (any_of HT_.out (by kernel_rfl)) (fun _ _ _ h => h) (Or.inl ⟨by rfl, ?_⟩) ?_ ?_
        rotate_left
        · intro w'
          go_simp
          with_reducible rfl
        rotate_left
        · simp only [Act.put, List.setIfInBounds_toArray, List.set_cons_zero, List.set_cons_succ, i64_w, i32_w]
          rfl
        refine pure_ (i := 6) (N := some 42) (v := ?_) (a' := ?_) #[true, true, true, false, false, false, true, false, false, false, false, false, false] rfl rfl (any_of HT_.out (by kernel_rfl)) (fun _ _ _ h => h) (Or.inl ⟨by rfl, ?_⟩) ?_ ?_
        rotate_left
        · intro w'
          go_simp
          with_reducible rfl
        rotate_left
        · simp only [Act.put, List.setIfInBounds_toArray, List.set_cons_zero, List.set_cons_succ, i64_w, i32_w]
          rfl
        refine pure_ (i := 8) (N := some 44) (v := ?_) (a' := ?_) #[true, true, true, false, false, false, true, false, true, false, false, false, false] rfl rfl (any_of HT_.out (by kernel_rfl)) (fun _ _ _ h => h) (Or.inl ⟨by rfl, ?_⟩) ?_ ?_
        rotate_left
        · intro w'
          go_simp
          with_reducible rfl
        rotate_left
        · simp only [Act.put, List.setIfInBounds_toArray, List.set_cons_zero, List.set_cons_succ, i64_w, i32_w]
          rfl
        refine take_ (i := 3) (N := some 39) (v := ?_) (a' := ?_) #[true, true, true, true, false, false, true, false, true, false, false, false, false] rfl rfl (take_ofW HT_.out HW_.out (by kernel_rfl)) (fun _ _ _ h => h) (Or.inl ⟨by rfl, ?_⟩) hHeld ?_ ?_
        rotate_left
        · rintro w' ⟨s0, s1⟩
          go_simp
          with_reducible rfl
        rotate_left
        · simp only [Act.put, List.setIfInBounds_toArray, List.set_cons_zero, List.set_cons_succ, i64_w, i32_w]
          rfl
        refine pure_ (i := 4) (N := some 40) (v := ?_) (a' := ?_) #[true, true, true, true, true, false, true, false, true, false, false, false, false] rfl rfl (any_of HT_.out (by kernel_rfl)) (fun _ _ _ h => h) (Or.inl ⟨by rfl, ?_⟩) ?_ ?_
        rotate_left
        · intro w'
          go_simp
          with_reducible rfl
        rotate_left
        · simp only [Act.put, List.setIfInBounds_toArray, List.set_cons_zero, List.set_cons_succ, i64_w, i32_w]
          rfl
        refine take_ (i := 7) (N := some 43) (v := ?_) (a' := ?_) #[true, true, true, true, true, false, true, true, true, false, false, false, false] rfl rfl (take_ofW HT_.out HW_.out (by kernel_rfl)) (fun _ _ _ h => h) (Or.inl ⟨by rfl, ?_⟩) hHeld ?_ ?_
        rotate_left
        · rintro w' ⟨s0, s1⟩
          go_simp
          with_reducible rfl
        rotate_left
        · simp only [Act.put, List.setIfInBounds_toArray, List.set_cons_zero, List.set_cons_succ, i64_w, i32_w]
          rfl
        refine pure_ (i := 9) (N := some 45) (v := ?_) (a' := ?_) #[true, true, true, true, true, false, true, true, true, true, false, false, false] rfl rfl (any_of HT_.out (by kernel_rfl)) (fun _ _ _ h => h) (Or.inl ⟨by rfl, ?_⟩) ?_ ?_
        rotate_left
        · intro w'
          go_simp
          with_reducible rfl
        rotate_left
        · simp only [Act.put, List.setIfInBounds_toArray, List.set_cons_zero, List.set_cons_succ, i64_w, i32_w]
          rfl
        refine join_ (σ := Value × Value) 2 #[true, true, true, true, true, true, true, true, true, true, true, false, false] (fun s_ => [(41, s_.1), (46, s_.2)]) (fun s_ w' => (w'.cell? ⟨gb208, 0, none⟩ = some (.int .u64 a1_0) ∧ w'.cell? ⟨gb208, 1, none⟩ = some (.int .u64 a1_1)) ∧ (Kd.R k48 48 w' w.heap.size (fun k_ => some k_ ≠ (s_.2 : Value).ownBlock ∧ k_ ≠ gb208) s_.1 t219) ∧ (Kd.R k48 48 w' w.heap.size (fun k_ => some k_ ≠ (s_.1 : Value).ownBlock ∧ k_ ≠ gb208) s_.2 y222) ∧ (w'.heap[gb208]? = some (.cells #[.int .u64 a1_0, .int .u64 a1_1] 48 (0, 0))) ∧ (Below w.heap.size w w')) ?_ ?_
        rotate_left
        · intro hCont
          refine two_ (i := 5) (j := 10) (Ni := some 41) (Nj := some 46) #[true, true, true, true, true, true, true, true, true, true, false, false, false] #[true, true, true, true, true, false, true, true, true, true, true, false, false] rfl rfl rfl rfl (two_of HT_.out (by kernel_rfl)) (by decide) (by decide) (fun K hK => ?_) (fun K hK => ?_)
          · skip
            refine goes_ Try.func26 (by kernel_rfl) rfl #[.int .u64 a0, .agg #[.int .u64 (IntKind.u64.wrap (a1_0 + t209)), .int .u64 a1_1]] (by rfl) rfl rfl (by (try simp only [List.map_toArray, List.map_cons, List.map_nil]); first | done | rfl | (simp only [List.length_drop, List.length_take]; rfl)) ?_
            with_reducible refine (ih k (by omega) a0 (IntKind.u64.wrap (a1_0 + t209)) a1_1 t219 _ A20.out).mono ?_
            rintro e w26 ⟨v220, rfl, ho0, hb⟩
            refine ⟨_, rfl, ?_⟩
            have n0_ := Aside0.mk (Kd.R_lower (Kd.R_newB ho0 (g := gb208) (o := .cells #[.int .u64 a1_0, .int .u64 a1_1] 48 (0, 0)) (by (with_reducible repeat (first | refine blk_drewN ?_ _ | refine blk_drew ?_ | refine blk_alloc ?_ _)); exact BK208.out)) (below_size (by repeat (first | (with_reducible first | exact HB.out | apply below_alloc | apply pw_below_drewN | apply below_drew1 | refine below_set ?_ GE208.out) | exact HB.out))))
            have n1_ := Aside0.mk (blk_below (g := gb208) (o := .cells #[.int .u64 a1_0, .int .u64 a1_1] 48 (0, 0)) (by (with_reducible repeat (first | refine blk_drewN ?_ _ | refine blk_drew ?_ | refine blk_alloc ?_ _)); exact BK208.out) hb)
            have n2_ := Aside0.mk (below_step (by repeat (first | (with_reducible first | exact HB.out | apply below_alloc | apply pw_below_drewN | apply below_drew1 | refine below_set ?_ GE208.out) | exact HB.out)) hb)
            clear BK208
            clear HB
            have HO221 := n0_
            have BK208 := n1_
            have HB := n2_
            clear n0_ n1_ n2_
            (try clear hb)
            (try clear hb2)
            (try clear hk)
            (try clear hi)
            (try clear ho0)
            refine hK.out _ _ ⟨(blk_cell BK208.out 0).trans rfl, (blk_cell BK208.out 1).trans rfl⟩ (fun hHeld => ?_)
            clear hK K
            refine norm_ (a' := ?_) ?_ ?_
            rotate_left
            · show Act.put _ (some 41) _ = _
              simp only [Act.put, List.setIfInBounds_toArray, List.set_cons_zero, List.set_cons_succ, i64_w, i32_w]
              rfl
            refine one_ (i := 10) (N := some 46) #[true, true, true, true, true, true, true, true, true, true, true, false, false] rfl rfl (one_of HT_.out (by kernel_rfl)) (by decide) (fun K hK => ?_)
            refine Kd.R_lit_step k48 _ 48 ?hg (N := 46) ?hd (xs := ([(⟨a1_0, IntKind.u64.wrap (a1_0 + t209)⟩ : S48)] : List (S48))) (inner := [.int .u64 a1_0, .int .u64 (IntKind.u64.wrap (a1_0 + t209))]) (ok := fun _ => True) (okp := fun _ => True) ?hr ?hp (fun _ hk => hk) trivial (Below.refl _ _) (Nat.le_refl _) (by simp) ?_; (case hd => rfl); (case hg => rfl); (case hr => first | (go_simp; done) | (go_simp; rfl)); (case hp => exact (Reps.c2 (show Kd.M k48 _ _ _ (⟨a1_0, IntKind.u64.wrap (a1_0 + t209)⟩ : S48) [.int .u64 a1_0, .int .u64 (IntKind.u64.wrap (a1_0 + t209))] from (k48_mkM _ _ _ (⟨a1_0, IntKind.u64.wrap (a1_0 + t209)⟩ : S48) )) (Reps.none _ _)))
            intro v223 w27 ho28 hb hg_ hnew_
            clear hg_ hnew_
            (first | rw [← Ny222.out] at ho28 | (simp only [Int.reduceToNat] at ho28; rw [← Ny222.out] at ho28))
            have n0_ := Aside0.mk (Kd.R_elder' (by (with_reducible repeat (first | apply Kd.R_alloc | apply Kd.R_drewN | apply Kd.R_drew)); exact HO221.out) (Kd.R_base ho28) hb)
            have n1_ := Aside0.mk (Kd.R_lower (Kd.R_newB (Kd.R_new' ho28 (Kd.R_lt (by (with_reducible repeat (first | apply Kd.R_alloc | apply Kd.R_drewN | apply Kd.R_drew)); exact HO221.out))) (g := gb208) (o := .cells #[.int .u64 a1_0, .int .u64 a1_1] 48 (0, 0)) (by (with_reducible repeat (first | refine blk_drewN ?_ _ | refine blk_drew ?_ | refine blk_alloc ?_ _)); exact BK208.out)) (below_size (by repeat (first | (with_reducible first | exact HB.out | apply below_alloc | apply pw_below_drewN | apply below_drew1 | refine below_set ?_ GE208.out) | exact HB.out))))
            have n2_ := Aside0.mk (blk_below (g := gb208) (o := .cells #[.int .u64 a1_0, .int .u64 a1_1] 48 (0, 0)) (by (with_reducible repeat (first | refine blk_drewN ?_ _ | refine blk_drew ?_ | refine blk_alloc ?_ _)); exact BK208.out) hb)
            have n3_ := Aside0.mk (below_step (by repeat (first | (with_reducible first | exact HB.out | apply below_alloc | apply pw_below_drewN | apply below_drew1 | refine below_set ?_ GE208.out) | exact HB.out)) hb)
            clear HO221
            clear BK208
            clear HB
            have HO221 := n0_
            have HO224 := n1_
            have BK208 := n2_
            have HB := n3_
            clear n0_ n1_ n2_ n3_
            clear hb ho28
            refine hK.out _ _ ⟨(blk_cell BK208.out 0).trans rfl, (blk_cell BK208.out 1).trans rfl⟩ (fun hHeld => ?_)
            clear hK K
            refine norm_ (a' := ?_) ?_ ?_
            rotate_left
            · show Act.put _ (some 46) _ = _
              simp only [Act.put, List.setIfInBounds_toArray, List.set_cons_zero, List.set_cons_succ, i64_w, i32_w]
              rfl
            exact norm_ (by simp only [putAll, Act.put, List.setIfInBounds_toArray, List.set_cons_zero, List.set_cons_succ]) (hCont (v220, v223) _ ⟨hHeld, (by (with_reducible repeat (first | apply Kd.R_alloc | apply Kd.R_drewN | apply Kd.R_drew)); exact Kd.R_mono HO221.out (fun _ hk => ⟨hk.2, hk.1.2⟩)), (by (with_reducible repeat (first | apply Kd.R_alloc | apply Kd.R_drewN | apply Kd.R_drew)); exact Kd.R_mono HO224.out (fun _ hk => ⟨hk.1.2, hk.2⟩)), (by (with_reducible repeat (first | refine blk_drewN ?_ _ | refine blk_drew ?_ | refine blk_alloc ?_ _)); exact BK208.out), (by repeat (first | (with_reducible first | exact HB.out | apply below_alloc | apply pw_below_drewN | apply below_drew1 | refine below_set ?_ GE208.out) | exact HB.out))⟩)
          · skip
            refine Kd.R_lit_step k48 _ 48 ?hg (N := 46) ?hd (xs := ([(⟨a1_0, IntKind.u64.wrap (a1_0 + t209)⟩ : S48)] : List (S48))) (inner := [.int .u64 a1_0, .int .u64 (IntKind.u64.wrap (a1_0 + t209))]) (ok := fun _ => True) (okp := fun _ => True) ?hr ?hp (fun _ hk => hk) trivial (Below.refl _ _) (Nat.le_refl _) (by simp) ?_; (case hd => rfl); (case hg => rfl); (case hr => first | (go_simp; done) | (go_simp; rfl)); (case hp => exact (Reps.c2 (show Kd.M k48 _ _ _ (⟨a1_0, IntKind.u64.wrap (a1_0 + t209)⟩ : S48) [.int .u64 a1_0, .int .u64 (IntKind.u64.wrap (a1_0 + t209))] from (k48_mkM _ _ _ (⟨a1_0, IntKind.u64.wrap (a1_0 + t209)⟩ : S48) )) (Reps.none _ _)))
            intro v223 w26 ho27 hb hg_ hnew_
            clear hg_ hnew_
            (first | rw [← Ny222.out] at ho27 | (simp only [Int.reduceToNat] at ho27; rw [← Ny222.out] at ho27))
            have n0_ := Aside0.mk (Kd.R_lower (Kd.R_newB ho27 (g := gb208) (o := .cells #[.int .u64 a1_0, .int .u64 a1_1] 48 (0, 0)) (by (with_reducible repeat (first | refine blk_drewN ?_ _ | refine blk_drew ?_ | refine blk_alloc ?_ _)); exact BK208.out)) (below_size (by repeat (first | (with_reducible first | exact HB.out | apply below_alloc | apply pw_below_drewN | apply below_drew1 | refine below_set ?_ GE208.out) | exact HB.out))))
            have n1_ := Aside0.mk (blk_below (g := gb208) (o := .cells #[.int .u64 a1_0, .int .u64 a1_1] 48 (0, 0)) (by (with_reducible repeat (first | refine blk_drewN ?_ _ | refine blk_drew ?_ | refine blk_alloc ?_ _)); exact BK208.out) hb)
            have n2_ := Aside0.mk (below_step (by repeat (first | (with_reducible first | exact HB.out | apply below_alloc | apply pw_below_drewN | apply below_drew1 | refine below_set ?_ GE208.out) | exact HB.out)) hb)
            clear BK208
            clear HB
            have HO224 := n0_
            have BK208 := n1_
            have HB := n2_
            clear n0_ n1_ n2_
            clear hb ho27
            refine hK.out _ _ ⟨(blk_cell BK208.out 0).trans rfl, (blk_cell BK208.out 1).trans rfl⟩ (fun hHeld => ?_)
            clear hK K
            refine norm_ (a' := ?_) ?_ ?_
            rotate_left
            · show Act.put _ (some 46) _ = _
              simp only [Act.put, List.setIfInBounds_toArray, List.set_cons_zero, List.set_cons_succ, i64_w, i32_w]
              rfl
            refine one_ (i := 5) (N := some 41) #[true, true, true, true, true, true, true, true, true, true, true, false, false] rfl rfl (one_of HT_.out (by kernel_rfl)) (by decide) (fun K hK => ?_)
            refine goes_ Try.func26 (by kernel_rfl) rfl #[.int .u64 a0, .agg #[.int .u64 (IntKind.u64.wrap (a1_0 + t209)), .int .u64 a1_1]] (by rfl) rfl rfl (by (try simp only [List.map_toArray, List.map_cons, List.map_nil]); first | done | rfl | (simp only [List.length_drop, List.length_take]; rfl)) ?_
            with_reducible refine (ih k (by omega) a0 (IntKind.u64.wrap (a1_0 + t209)) a1_1 t219 _ A20.out).mono ?_
            rintro e w28 ⟨v220, rfl, ho0, hb⟩
            refine ⟨_, rfl, ?_⟩
            have n0_ := Aside0.mk (Kd.R_elder' (by (with_reducible repeat (first | apply Kd.R_alloc | apply Kd.R_drewN | apply Kd.R_drew)); exact HO224.out) (Kd.R_base ho0) hb)
            have n1_ := Aside0.mk (Kd.R_lower (Kd.R_newB (Kd.R_new' ho0 (Kd.R_lt (by (with_reducible repeat (first | apply Kd.R_alloc | apply Kd.R_drewN | apply Kd.R_drew)); exact HO224.out))) (g := gb208) (o := .cells #[.int .u64 a1_0, .int .u64 a1_1] 48 (0, 0)) (by (with_reducible repeat (first | refine blk_drewN ?_ _ | refine blk_drew ?_ | refine blk_alloc ?_ _)); exact BK208.out)) (below_size (by repeat (first | (with_reducible first | exact HB.out | apply below_alloc | apply pw_below_drewN | apply below_drew1 | refine below_set ?_ GE208.out) | exact HB.out))))
            have n2_ := Aside0.mk (blk_below (g := gb208) (o := .cells #[.int .u64 a1_0, .int .u64 a1_1] 48 (0, 0)) (by (with_reducible repeat (first | refine blk_drewN ?_ _ | refine blk_drew ?_ | refine blk_alloc ?_ _)); exact BK208.out) hb)
            have n3_ := Aside0.mk (below_step (by repeat (first | (with_reducible first | exact HB.out | apply below_alloc | apply pw_below_drewN | apply below_drew1 | refine below_set ?_ GE208.out) | exact HB.out)) hb)
            clear HO224
            clear BK208
            clear HB
            have HO224 := n0_
            have HO221 := n1_
            have BK208 := n2_
            have HB := n3_
            clear n0_ n1_ n2_ n3_
            (try clear hb)
            (try clear hb2)
            (try clear hk)
            (try clear hi)
            (try clear ho0)
            refine hK.out _ _ ⟨(blk_cell BK208.out 0).trans rfl, (blk_cell BK208.out 1).trans rfl⟩ (fun hHeld => ?_)
            clear hK K
            refine norm_ (a' := ?_) ?_ ?_
            rotate_left
            · show Act.put _ (some 41) _ = _
              simp only [Act.put, List.setIfInBounds_toArray, List.set_cons_zero, List.set_cons_succ, i64_w, i32_w]
              rfl
            exact norm_ (by simp only [putAll, Act.put, List.setIfInBounds_toArray, List.set_cons_zero, List.set_cons_succ]) (hCont (v220, v223) _ ⟨hHeld, (by (with_reducible repeat (first | apply Kd.R_alloc | apply Kd.R_drewN | apply Kd.R_drew)); exact Kd.R_mono HO221.out (fun _ hk => ⟨hk.1.2, hk.2⟩)), (by (with_reducible repeat (first | apply Kd.R_alloc | apply Kd.R_drewN | apply Kd.R_drew)); exact Kd.R_mono HO224.out (fun _ hk => ⟨hk.2, hk.1.2⟩)), (by (with_reducible repeat (first | refine blk_drewN ?_ _ | refine blk_drew ?_ | refine blk_alloc ?_ _)); exact BK208.out), (by repeat (first | (with_reducible first | exact HB.out | apply below_alloc | apply pw_below_drewN | apply below_drew1 | refine below_set ?_ GE208.out) | exact HB.out))⟩)
        rintro ⟨v220, v223⟩ w29 ⟨hS_, h0_, h1_, h2_, h3_⟩
        have n0_ : Aside0 (Kd.R k48 48 w29 w.heap.size (fun k_ => some k_ ≠ (v223 : Value).ownBlock ∧ k_ ≠ gb208) v220 t219) := ⟨h0_⟩
        have n1_ : Aside0 (Kd.R k48 48 w29 w.heap.size (fun k_ => some k_ ≠ (v220 : Value).ownBlock ∧ k_ ≠ gb208) v223 y222) := ⟨h1_⟩
        have n2_ : Aside0 (w29.heap[gb208]? = some (.cells #[.int .u64 a1_0, .int .u64 a1_1] 48 (0, 0))) := ⟨h2_⟩
        have n3_ : Aside0 (Below w.heap.size w w29) := ⟨h3_⟩
        clear BK208
        clear HB
        clear h0_ h1_ h2_ h3_
        have HO221 := n0_
        have HO224 := n1_
        have BK208 := n2_
        have HB := n3_
        clear n0_ n1_ n2_ n3_
        have hHeld : w29.cell? ⟨gb208, 0, none⟩ = some (.int .u64 a1_0) ∧ w29.cell? ⟨gb208, 1, none⟩ = some (.int .u64 a1_1) := hS_
        obtain ⟨Ao31, co31, eo31⟩ := Kd.R_slice HO224.out
        (first | subst eo31 | (injection eo31 with f1_ f2_ f3_; have f4_ := f1_.symm; have f5_ := f3_.symm; clear f1_ f2_ f3_; subst f4_; subst f5_))
        refine norm_ (a' := ?_) ?_ ?_
        rotate_left
        · simp only [putAll, Act.put, List.setIfInBounds_toArray, List.set_cons_zero, List.set_cons_succ]
          rfl
        refine one_ (i := 11) (N := some 47) #[true, true, true, true, true, true, true, true, true, true, true, true, false] rfl rfl (one_of HT_.out (by kernel_rfl)) (by decide) (fun K hK => ?_)
        refine Kd.R_append_rows_step k48 (w0 := w) w.heap.size (by rfl) (.tmp 41) (.tmp 46) 32 48 (.agg #[(.int .u64 0), (.int .u64 0)]) 16 rfl Try.underlying32 info48 rfl (by decide) (by omega) v220 t219 y222 _ _ _ (fun k_ => some k_ ≠ (.slice Ao31 y222.length co31 : Value).ownBlock ∧ k_ ≠ gb208) (fun _ => False) rfl rfl ?aO ?aR (fun _ _ h => h) (fun _ h => h.elim) ?aF ?aB ?aS ?aL ?_
        (case aR => repeat (first | exact (Kd.R_reads' HO224.out).2.2 | (with_reducible refine Kd.C_alloc ?_ _) | (with_reducible refine Kd.C_drewN ?_ _) | (with_reducible refine Kd.C_drew ?_)))
        (case aB => exact (by repeat (first | (with_reducible first | exact HB.out | apply below_alloc | apply pw_below_drewN | apply below_drew1 | refine below_set ?_ GE208.out) | exact HB.out)))
        (case aF => exact (fun k_ hk => ⟨Kd.fresh' (Kd.R_lt (by (with_reducible repeat (first | apply Kd.R_alloc | apply Kd.R_drewN | apply Kd.R_drew)); exact HO224.out)) k_ hk, Kd.freshB (g := gb208) (o := .cells #[.int .u64 a1_0, .int .u64 a1_1] 48 (0, 0)) (by (with_reducible repeat (first | refine blk_drewN ?_ _ | refine blk_drew ?_ | refine blk_alloc ?_ _)); exact BK208.out) k_ hk⟩))
        (case aO => exact (by (with_reducible repeat (first | apply Kd.R_alloc | apply Kd.R_drewN | apply Kd.R_drew)); exact HO221.out))
        (case aS => exact (below_size (by repeat (first | (with_reducible first | exact HB.out | apply below_alloc | apply pw_below_drewN | apply below_drew1 | refine below_set ?_ GE208.out) | exact HB.out))))
        (case aL => have := LMc21.out; omega)
        intro v226 w30 ho hb hg hat
        rw [← Ny225.out] at ho
        have n0_ := Aside0.mk (blk_grown (g := gb208) (o := .cells #[.int .u64 a1_0, .int .u64 a1_1] 48 (0, 0)) (by (with_reducible repeat (first | refine blk_drewN ?_ _ | refine blk_drew ?_ | refine blk_alloc ?_ _)); exact BK208.out) hg (Kd.R_away HO221.out (fun _ hk => hk.2)))
        have n1_ := Aside0.mk (Kd.R_after (ok := (fun k_ => k_ ≠ gb208)) (by (with_reducible repeat (first | apply Kd.R_alloc | apply Kd.R_drewN | apply Kd.R_drew)); exact Kd.R_mono HO224.out (fun _ hk => ⟨hk.2, hk.1⟩)) hg hat)
        have n2_ := Aside0.mk (hb)
        have n3_ := Aside0.mk (ho)
        clear BK208
        clear HO224
        clear HB
        clear HO221
        have BK208 := n0_
        have HO224 := n1_
        have HB := n2_
        have HO227 := n3_
        clear n0_ n1_ n2_ n3_
        clear ho hb hg hat
        refine hK.out _ _ ⟨(blk_cell BK208.out 0).trans rfl, (blk_cell BK208.out 1).trans rfl⟩ (fun hHeld => ?_)
        clear hK K
        refine norm_ (a' := ?_) ?_ ?_
        rotate_left
        · show Act.put _ (some 47) _ = _
          simp only [Act.put, List.setIfInBounds_toArray, List.set_cons_zero, List.set_cons_succ, i64_w, i32_w]
          rfl
        refine pure_ (i := 12) (N := some 4) (v := ?_) (a' := ?_) #[true, true, true, true, true, true, true, true, true, true, true, true, true] rfl rfl (any_of HT_.out (by kernel_rfl)) (fun _ _ _ h => h) (Or.inl ⟨by rfl, ?_⟩) ?_ ?_
        rotate_left
        · intro w'
          go_simp
          with_reducible rfl
        rotate_left
        · simp only [Act.put, List.setIfInBounds_toArray, List.set_cons_zero, List.set_cons_succ, i64_w, i32_w]
          rfl
        refine done_ (done_of HT_.out (by kernel_rfl)) ?_
        try go_wp2
        go_ret
        exact ⟨_, by first | rfl | (simp [errW_none, errW_some] <;> rfl) | (simp [*, errW_none, errW_some] <;> rfl), by (with_reducible repeat (first | apply Kd.R_alloc | apply Kd.R_drewN | apply Kd.R_drew)); exact Kd.R_mono HO227.out (fun _ hk => trivial), by repeat (first | (with_reducible first | exact HB.out | apply below_alloc | apply pw_below_drewN | apply below_drew1 | refine below_set ?_ GE208.out) | exact HB.out)⟩
      · rw [if_neg c21] at H
        exact absurd H (by simp)

end Go.Proofs.Ytkmdkmlgahfcpaa.M

namespace Go.Proofs.Ytkmdkmlgahfcpaa.M
open Go.RowKit Go.Proofs.YtkmdkmlgahfcpaaW.PrintWords Go.Proofs.YtkmdkmlgahfcpaaW.PrintLast Go.Proofs.YtkmdkmlgahfcpaaW.PrintMore
attribute [local go_sem] max2_int min2_int max_two min_two max_three min_three max_four min_four   -- for this text's walks alone
set_option linter.unusedVariables false
set_option linter.unusedSimpArgs false

/-! ### spec_PathParts: function 12 -/
def spec_PathParts.f (k : Nat) (a0 : Int) (a1 : Int) : Option ((List (S48))) := (spec_pathIn.f k a0 0 a1).bind fun t228 => (some t228)
theorem spec_PathParts.mono : ∀ a0 a1 k, LeO (spec_PathParts.f k a0 a1) (spec_PathParts.f (k + 1) a0 a1) := by
  intro a0 a1 k
  unfold spec_PathParts.f
  repeat' first
      | (with_reducible exact spec_pathIn.mono _ _ _ _)
      | (with_reducible exact LeO.refl _)
      | (with_reducible exact LeO.none _)
      | (with_reducible refine LeO.ite ?_ ?_)
      | (with_reducible refine LeO.bind ?_ (fun _ => ?_))
      | exact spec_pathIn.mono _ _ _ _
      | exact LeO.none _
      | refine LeO.ite ?_ ?_
      | refine LeO.bind ?_ (fun _ => ?_)
set_option maxHeartbeats 8000000 in
set_option maxRecDepth 100000 in
theorem spec_PathParts.calls (k : Nat) (a0 : Int) (a1 : Int) (r : List (S48)) (w : World) (h : spec_PathParts.f k a0 a1 = some r) :
    Calls Try.prog 12 #[.int .u64 a0, .int .u64 a1] w fun e w' => ∃ v0_ : Value, e = .returned (v0_) ∧ Kd.R k48 48 w' w.heap.size (fun _ => True) v0_ r ∧ Below w.heap.size w w' := by
  have hu48 := Try.underlying48
  have HB := Aside0.mk (Below.refl w.heap.size w)
  have H : ((spec_pathIn.f k a0 0 a1).bind fun t228 => (some t228)) = some r := h
  clear h
  replace H := Option.bind_eq_some_iff.mp H
  obtain ⟨t228, A30, H⟩ := H
  replace H : (some t228) = some r := H
  have A3 := Aside0.mk A30
  clear A30
  obtain rfl := Option.some.inj H
  go_enter Try.func12, Try.ntmps12
  go_wp2_with (first | ((with_reducible refine gate_callee (f := 26) rfl ?_); refine goesL_ (some 8) rfl rfl Try.func26 (by kernel_rfl) rfl #[.int .u64 a0, .agg #[.int .u64 0, .int .u64 a1]] rfl (by (try simp only [List.map_toArray, List.map_cons, List.map_nil]); first | done | rfl | (simp only [List.length_drop, List.length_take]; rfl)) ?_; (with_reducible refine (spec_pathIn.calls k a0 0 a1 t228 _ A3.out).mono ?_); rintro e w4 ⟨v229, rfl, ho0, hb⟩; refine ⟨_, rfl, ?_⟩; have n0_ := Aside0.mk (Kd.R_lower ho0 (below_size (by repeat (first | (with_reducible first | exact HB.out | apply below_alloc | apply pw_below_drewN | apply below_drew1) | exact HB.out)))); have n1_ := Aside0.mk (below_step (by repeat (first | (with_reducible first | exact HB.out | apply below_alloc | apply pw_below_drewN | apply below_drew1) | exact HB.out)) hb); clear HB; have HO230 := n0_; have HB := n1_; clear n0_ n1_; (try clear hb); (try clear hb2); (try clear hk); (try clear hi); (try clear ho0)))
  go_ret
  exact ⟨_, by first | rfl | (simp [errW_none, errW_some] <;> rfl) | (simp [*, errW_none, errW_some] <;> rfl), by (with_reducible repeat (first | apply Kd.R_alloc | apply Kd.R_drewN | apply Kd.R_drew)); exact HO230.out, by repeat (first | (with_reducible first | exact HB.out | apply below_alloc | apply pw_below_drewN | apply below_drew1) | exact HB.out)⟩

end Go.Proofs.Ytkmdkmlgahfcpaa.M

namespace Go.Proofs.Ytkmdkmlgahfcpaa.M
open Go.RowKit Go.Proofs.YtkmdkmlgahfcpaaW.PrintWords Go.Proofs.YtkmdkmlgahfcpaaW.PrintLast Go.Proofs.YtkmdkmlgahfcpaaW.PrintMore
attribute [local go_sem] max2_int min2_int max_two min_two max_three min_three max_four min_four   -- for this text's walks alone
set_option linter.unusedVariables false
set_option linter.unusedSimpArgs false

/-! ### spec_SameText: function 15 -/
def spec_SameText.f (l0 : List Int) (l1 : List Int) : Option (Bool) := some ((strOfNums l0).toList == (strOfNums l1).toList)
set_option maxHeartbeats 8000000 in
set_option maxRecDepth 100000 in
theorem spec_SameText.calls (A0 : Option Addr) (c0 : Nat) (l0 : List Int) (A1 : Option Addr) (c1 : Nat) (l1 : List Int) (r : Bool) (w : World) (hr0 : Kd.C (Kd.int .u8) w A0 l0.length l0) (hc0 : l0.length ≤ c0) (hr1 : Kd.C (Kd.int .u8) w A1 l1.length l1) (hc1 : l1.length ≤ c1) (h : spec_SameText.f l0 l1 = some r) :
    Calls Try.prog 15 #[.slice A0 l0.length c0, .slice A1 l1.length c1] w fun e w' => e = .returned (.bool r) ∧ Drawn0 w w' := by
  have HR0 := Aside0.mk hr0
  have HC0 := Aside0.mk hc0
  clear hr0 hc0
  have HR1 := Aside0.mk hr1
  have HC1 := Aside0.mk hc1
  clear hr1 hc1
  have H : (some ((strOfNums l0).toList == (strOfNums l1).toList)) = some r := h
  clear h
  obtain rfl := Option.some.inj H
  have hcv3 := Kd.C_string (P := Try.prog) (A := A0) (c := c0) Try.underlying30 Try.underlying5 Try.underlying9 HR0.out
  have hcv3b := fun m_ : Nat => Kd.C_string (P := Try.prog) (A := A0) (c := c0) Try.underlying30 Try.underlying5 Try.underlying9 (Kd.C_drewN HR0.out m_)
  have hcv4 := Kd.C_string (P := Try.prog) (A := A1) (c := c1) Try.underlying30 Try.underlying5 Try.underlying9 HR1.out
  have hcv4b := fun m_ : Nat => Kd.C_string (P := Try.prog) (A := A1) (c := c1) Try.underlying30 Try.underlying5 Try.underlying9 (Kd.C_drewN HR1.out m_)
  go_enter Try.func15, Try.ntmps15
  go_wp2
  go_ret
  exact ⟨by first | rfl | (simp; done) | (simp [*]; done), by repeat (first | exact Drawn0.refl _ | apply Drawn0.step)⟩

end Go.Proofs.Ytkmdkmlgahfcpaa.M

namespace Go.Proofs.Ytkmdkmlgahfcpaa.M
open Go.RowKit Go.Proofs.YtkmdkmlgahfcpaaW.PrintWords Go.Proofs.YtkmdkmlgahfcpaaW.PrintLast Go.Proofs.YtkmdkmlgahfcpaaW.PrintMore
attribute [local go_sem] max2_int min2_int max_two min_two max_three min_three max_four min_four   -- for this text's walks alone
set_option linter.unusedVariables false
set_option linter.unusedSimpArgs false

/-! ### impl_texts: function 23 -/
def impl_texts.l0 : Nat → List (List Int) → List (List Int) → Int → Int → Option ((List (List Int)))
  | 0, _, _, _, _ => none
  | k + 1, x3, x6, x7, x8 => if x8 < x7 then (if 0 ≤ x8 then (if x8 < (x6.length : Int) then ((some (([] : List Int) : List Int)).bind fun y104 => (if y104.length + (rd_L1 x6 x8).length < 140737488355328 then (if x3.length < 5864062014805 then (impl_texts.l0 k (x3 ++ [(y104 ++ (rd_L1 x6 x8))]) x6 x7 (wrap64 (x8 + 1))) else (none)) else (none))) else (none)) else (none)) else (some x3)
def impl_texts.f (k : Nat) (l0 : List (List Int)) : Option ((List (List Int))) := impl_texts.l0 k ([] : List (List Int)) l0 (l0.length : Int) 0
theorem impl_texts.mono_l : ∀ k, (∀ y0 y1 y2 y3, LeO (impl_texts.l0 k y0 y1 y2 y3) (impl_texts.l0 (k + 1) y0 y1 y2 y3))
  | 0 => fun _ _ _ _ r h => by simp [impl_texts.l0] at h
  | k + 1 => by
    have ih0 := impl_texts.mono_l k
    · intro y0 y1 y2 y3
      unfold impl_texts.l0
      repeat' first
      | (with_reducible exact ih0 _ _ _ _)
      | (with_reducible exact LeO.refl _)
      | (with_reducible exact LeO.none _)
      | (with_reducible refine LeO.ite ?_ ?_)
      | (with_reducible refine LeO.bind ?_ (fun _ => ?_))
      | exact ih0 _ _ _ _
      | exact LeO.none _
      | refine LeO.ite ?_ ?_
      | refine LeO.bind ?_ (fun _ => ?_)
theorem impl_texts.mono : ∀ a0 k, LeO (impl_texts.f k a0) (impl_texts.f (k + 1) a0) := by
  intro a0 k
  have ih0 := impl_texts.mono_l k
  unfold impl_texts.f
  repeat' first
      | (with_reducible exact ih0 _ _ _ _)
      | (with_reducible exact LeO.refl _)
      | (with_reducible exact LeO.none _)
      | (with_reducible refine LeO.ite ?_ ?_)
      | (with_reducible refine LeO.bind ?_ (fun _ => ?_))
      | exact ih0 _ _ _ _
      | exact LeO.none _
      | refine LeO.ite ?_ ?_
      | refine LeO.bind ?_ (fun _ => ?_)
set_option maxHeartbeats 8000000 in
set_option maxRecDepth 100000 in
theorem impl_texts.calls (k : Nat) (A0 : Option Addr) (c0 : Nat) (l0 : List (List Int)) (r : List (List Int)) (w : World) (hr0 : Kd.C (Kd.slice 5 (Kd.int .u8)) w A0 l0.length l0) (hc0 : l0.length ≤ c0) (h : impl_texts.f k l0 = some r) :
    Calls Try.prog 23 #[.slice A0 l0.length c0] w fun e w' => ∃ v0_ : Value, e = .returned (v0_) ∧ Kd.S (Kd.slice 5 (Kd.int .u8)) 30 w' w.heap.size (fun _ => True) v0_ r ∧ Below w.heap.size w w' := by
  have HR0 := Aside0.mk hr0
  have HC0 := Aside0.mk hc0
  clear hr0 hc0
  have HB := Aside0.mk (Below.refl w.heap.size w)
  have H : (impl_texts.l0 k ([] : List (List Int)) l0 (l0.length : Int) 0) = some r := h
  clear h
  have H' := Aside0.mk H
  clear H
  go_enter Try.func23, Try.ntmps23
  go_wp2
  go_loopg [3, 8] k (fun kq v3 v8 w' => ∃ (x3_1 : List (List Int)) (x8_1 : Int), v8 = .int .i64 x8_1 ∧ Aside0 (impl_texts.l0 kq x3_1 l0 (l0.length : Int) x8_1 = some r) ∧ Aside0 (kq ≤ k) ∧ Aside0 (Kd.S (Kd.slice 5 (Kd.int .u8)) 30 w' w.heap.size (fun _ => True) v3 x3_1) ∧ Aside0 (Below w.heap.size w w'))
  case atStart => exact ⟨(([] : List (List Int))), (0), (by first | rfl | (simp; done) | (simp [*]; done)), H', ⟨Nat.le_refl _⟩, ⟨by first | exact Kd.S_nil _ _ _ _ _ | exact Kd.N_nil _ _ _ _ _ | exact Kd.V_nil _ _ _ _ _ | exact Kd.Q_nil _ _ _ _ _ | exact Kd.R_nil _ _ _ _ _⟩, ⟨by repeat (first | (with_reducible first | exact HB.out | apply below_alloc | apply pw_below_drewN | apply below_drew1) | exact HB.out)⟩⟩
  case round =>
    clear H'
    obtain ⟨x3_1, x8_1, rfl, HA, HK1, HO_3, HB⟩ := hrel
    cases gk with
    | zero => exact absurd HA.out (by simp [impl_texts.l0])
    | succ k1 =>
      have H := HA.out
      clear HA
      simp only [impl_texts.l0] at H
      by_cases c2 : x8_1 < (l0.length : Int)
      · rw [if_pos c2] at H
        have c2b0 : decide (x8_1 < (l0.length : Int)) = true := decide_eq_true c2
        clear c2
        by_cases c3 : 0 ≤ x8_1
        · rw [if_pos c3] at H
          have c3b0 : decide (0 ≤ x8_1) = true := decide_eq_true c3
          clear c3
          by_cases c4 : x8_1 < (l0.length : Int)
          · rw [if_pos c4] at H
            have c4b0 : decide (x8_1 < (l0.length : Int)) = true := decide_eq_true c4
            clear c4
            obtain ⟨y104, hy104⟩ : ∃ y_ : List Int, y_ = (([] : List Int)) := ⟨_, rfl⟩
            replace H : (if y104.length + (rd_L1 l0 x8_1).length < 140737488355328 then (if x3_1.length < 5864062014805 then (impl_texts.l0 k1 (x3_1 ++ [(y104 ++ (rd_L1 l0 x8_1))]) l0 (l0.length : Int) (wrap64 (x8_1 + 1))) else (none)) else (none)) = some r := by first | (rw [hy104]; with_reducible exact H) | (have H2_ := (Option.bind_some _ _).symm.trans H; rw [hy104]; with_reducible exact H2_) | (have H2_ := (Option.bind_some _ _).symm.trans H; with_reducible exact H2_) | with_reducible exact H | (rw [hy104]; exact H) | exact H
            have Ny104 := Aside0.mk hy104
            clear hy104
            by_cases c5 : y104.length + (rd_L1 l0 x8_1).length < 140737488355328
            · rw [if_pos c5] at H
              have LMc5 := Aside0.mk c5
              clear c5
              obtain ⟨y107, hy107⟩ : ∃ y_ : List Int, y_ = (y104 ++ (rd_L1 l0 x8_1)) := ⟨_, rfl⟩
              replace H : (if x3_1.length < 5864062014805 then (impl_texts.l0 k1 (x3_1 ++ [y107]) l0 (l0.length : Int) (wrap64 (x8_1 + 1))) else (none)) = some r := by first | (rw [hy107]; with_reducible exact H) | (have H2_ := (Option.bind_some _ _).symm.trans H; rw [hy107]; with_reducible exact H2_) | (have H2_ := (Option.bind_some _ _).symm.trans H; with_reducible exact H2_) | with_reducible exact H | (rw [hy107]; exact H) | exact H
              have Ny107 := Aside0.mk hy107
              clear hy107
              by_cases c6 : x3_1.length < 5864062014805
              · rw [if_pos c6] at H
                have LMc6 := Aside0.mk c6
                clear c6
                obtain ⟨y110, hy110⟩ : ∃ y_ : List (List Int), y_ = (x3_1 ++ [y107]) := ⟨_, rfl⟩
                replace H : (impl_texts.l0 k1 y110 l0 (l0.length : Int) (wrap64 (x8_1 + 1))) = some r := by first | (rw [hy110]; with_reducible exact H) | (have H2_ := (Option.bind_some _ _).symm.trans H; rw [hy110]; with_reducible exact H2_) | (have H2_ := (Option.bind_some _ _).symm.trans H; with_reducible exact H2_) | with_reducible exact H | (rw [hy110]; exact H) | exact H
                have Ny110 := Aside0.mk hy110
                clear hy110
                have H' := Aside0.mk H
                clear H
                have p103 : 0 ≤ (x8_1 : Int) := of_decide_eq_true (by first | (with_reducible assumption) | assumption)
                have q103 : x8_1 < (l0.length : Int) := of_decide_eq_true (by first | (with_reducible assumption) | assumption)
                obtain ⟨ad103, A103_0, c103_0, e103, hx103_0, hl103_0, hi103_0⟩ := at_L1 HR0.out x8_1 p103 q103
                cases e103
                replace hx103_0 := (HB.out.cell (World.block_lt_of_cell? w _ hx103_0)).trans hx103_0
                have HR103_0 := Aside0.mk hi103_0
                have HC103_0 := Aside0.mk hl103_0
                clear hi103_0 hl103_0
                replace p103 := eq_true p103
                replace q103 := eq_true q103
                go_wp2_with (first | ((with_reducible refine gate_dst (N := 13) rfl ?_); refine Kd.R_lit (Kd.int .u8) _ 5 ?hg (N := 13) ?hd (xs := ([] : List Int)) (inner := []) (ok := fun _ => True) (okp := fun _ => True) ?hr ?hp (fun _ hk => hk) trivial (Below.refl _ _) (Nat.le_refl _) (by simp) ?_; (case hd => rfl); (case hg => rfl); (case hr => first | (go_simp; done) | (go_simp; rfl)); (case hp => exact (Reps.none _ _)); intro v105 w7 ho8 hb hg_ hnew_; clear hg_ hnew_; (first | rw [← Ny104.out] at ho8 | (simp only [Int.reduceToNat] at ho8; rw [← Ny104.out] at ho8)); have n0_ := Aside0.mk (Kd.S_elder' (by (with_reducible repeat (first | apply Kd.S_alloc | apply Kd.S_drewN | apply Kd.S_drew)); exact HO_3.out) (Kd.R_base ho8) hb); have n1_ := Aside0.mk (Kd.R_lower ho8 (below_size (by repeat (first | (with_reducible first | exact HB.out | apply below_alloc | apply pw_below_drewN | apply below_drew1) | exact HB.out)))); have n2_ := Aside0.mk (below_step (by repeat (first | (with_reducible first | exact HB.out | apply below_alloc | apply pw_below_drewN | apply below_drew1) | exact HB.out)) hb); clear HO_3; clear HB; have HO_3 := n0_; have HO106 := n1_; have HB := n2_; clear n0_ n1_ n2_; clear hb ho8) | ((with_reducible refine gate_builtin (b := .append) (xs := #[.tmp 13, .tmp 14]) rfl ?_); at_builtin; refine Kd.R_append_rows (Kd.int .u8) (w0 := w) w.heap.size rfl (.tmp 13) (.tmp 14) 30 5 (.int .u8 0) 1 rfl Try.underlying30 info5 rfl (by decide) (by omega) v105 y104 (rd_L1 l0 x8_1) _ _ _ (fun _ => True) (fun _ => False) rfl rfl ?aO ?aR (fun _ _ h => h) (fun _ h => h.elim) ?aF ?aB ?aS ?aL ?_; (case aR => repeat (first | exact (Kd.C_below HR103_0.out HB.out) | (with_reducible refine Kd.C_alloc ?_ _) | (with_reducible refine Kd.C_drewN ?_ _) | (with_reducible refine Kd.C_drew ?_))); (case aB => exact (by repeat (first | (with_reducible first | exact HB.out | apply below_alloc | apply pw_below_drewN | apply below_drew1) | exact HB.out))); (case aF => exact (fun _ _ => trivial)); (case aO => exact (by (with_reducible repeat (first | apply Kd.R_alloc | apply Kd.R_drewN | apply Kd.R_drew)); exact HO106.out)); (case aS => exact (below_size (by repeat (first | (with_reducible first | exact HB.out | apply below_alloc | apply pw_below_drewN | apply below_drew1) | exact HB.out)))); (case aL => have := LMc5.out; omega); intro v108 w9 ho hb hg hat; rw [← Ny107.out] at ho; have n0_ := Aside0.mk (Kd.S_after (ok := (fun _ => True)) (by (with_reducible repeat (first | apply Kd.S_alloc | apply Kd.S_drewN | apply Kd.S_drew)); exact HO_3.out) hg hat); have n1_ := Aside0.mk (hb); have n2_ := Aside0.mk (ho); clear HO_3; clear HB; clear HO106; have HO_3 := n0_; have HB := n1_; have HO109 := n2_; clear n0_ n1_ n2_; clear ho hb hg hat; obtain ⟨Ao11, co11, eo11⟩ := Kd.R_slice HO109.out; subst eo11) | ((with_reducible refine gate_builtin (b := .append) (xs := #[.tmp 12, .tmp 16]) rfl ?_); at_builtin; refine Kd.S_append (Kd.slice 5 (Kd.int .u8)) (w0 := w) w.heap.size rfl (.tmp 12) (.tmp 16) 23 30 (.slice none 0 0) 24 rfl Try.underlying23 info30 rfl (by decide) (by omega) u3 x3_1 y107 [.slice Ao11 y107.length co11] (fun _ => True) (fun k_ => some k_ = (.slice Ao11 y107.length co11 : Value).ownBlock) rfl rfl ?aP (fun k_ hk_ => ((Kd.R_mono (ok' := fun k_ => ((fun _ => True)) k_ ∧ some k_ ≠ (u3 : Value).ownBlock) (Kd.R_apart' (HO109.out) (Kd.S_typed HO_3.out) (by decide)) (fun k_ hk => ⟨trivial, hk.2⟩))).1 k_ hk_.symm) ?aF ?aO ?aB ?aS ?aL ?_; (case aP => exact Kd.M_row (Kd.R_mono (Kd.R_tight rfl (Kd.R_mono (ok' := fun k_ => ((fun _ => True)) k_ ∧ some k_ ≠ (u3 : Value).ownBlock) (Kd.R_apart' (HO109.out) (Kd.S_typed HO_3.out) (by decide)) (fun k_ hk => ⟨trivial, hk.2⟩))) (fun _ h_ => h_))); (case aB => exact (by repeat (first | (with_reducible first | exact HB.out | apply below_alloc | apply pw_below_drewN | apply below_drew1) | exact HB.out))); (case aF => exact (fun _ _ => trivial)); (case aO => exact (by (with_reducible repeat (first | apply Kd.S_alloc | apply Kd.S_drewN | apply Kd.S_drew)); exact Kd.S_mono HO_3.out (fun k_ hk => ⟨trivial, fun e_ => hk.2 e_⟩))); (case aS => exact (below_size (by repeat (first | (with_reducible first | exact HB.out | apply below_alloc | apply pw_below_drewN | apply below_drew1) | exact HB.out)))); (case aL => have := LMc6.out; omega); intro v111 w10 ho hb hg hat; rw [← Ny110.out] at ho; have n0_ := Aside0.mk (hb); have n1_ := Aside0.mk (ho); clear HB; clear HO_3; clear HO109; have HB := n0_; have HO112 := n1_; clear n0_ n1_; clear ho hb hg hat))
                go_roundg k1
                case measure => have := HK1.out; omega
                case rel => exact ⟨(y110), (wrap64 (x8_1 + 1)), (by first | rfl | (simp; done) | (simp [*]; done)), H', ⟨by have := HK1.out; omega⟩, ⟨by (with_reducible repeat (first | apply Kd.S_alloc | apply Kd.S_drewN | apply Kd.S_drew)); exact HO112.out⟩, ⟨by repeat (first | (with_reducible first | exact HB.out | apply below_alloc | apply pw_below_drewN | apply below_drew1) | exact HB.out)⟩⟩
              · rw [if_neg c6] at H
                exact absurd H (by simp)
            · rw [if_neg c5] at H
              exact absurd H (by simp)
          · rw [if_neg c4] at H
            exact absurd H (by simp)
        · rw [if_neg c3] at H
          exact absurd H (by simp)
      · rw [if_neg c2] at H
        have c2b0 : decide (x8_1 < (l0.length : Int)) = false := decide_eq_false c2
        clear c2
        obtain rfl := Option.some.inj H
        go_wp2
        go_ret
        exact ⟨_, by first | rfl | (simp [errW_none, errW_some] <;> rfl) | (simp [*, errW_none, errW_some] <;> rfl), by (with_reducible repeat (first | apply Kd.S_alloc | apply Kd.S_drewN | apply Kd.S_drew)); exact HO_3.out, by repeat (first | (with_reducible first | exact HB.out | apply below_alloc | apply pw_below_drewN | apply below_drew1) | exact HB.out)⟩

end Go.Proofs.Ytkmdkmlgahfcpaa.M

namespace Go.Proofs.Ytkmdkmlgahfcpaa.M
open Go.RowKit Go.Proofs.YtkmdkmlgahfcpaaW.PrintWords Go.Proofs.YtkmdkmlgahfcpaaW.PrintLast Go.Proofs.YtkmdkmlgahfcpaaW.PrintMore
attribute [local go_sem] max2_int min2_int max_two min_two max_three min_three max_four min_four   -- for this text's walks alone
set_option linter.unusedVariables false
set_option linter.unusedSimpArgs false

/-! ### impl_verdict: function 31 -/
theorem cell_of_box {w w7 : World} {v0 v1 : Value} {t : TypeId} (hb : Below (w.alloc (.cells #[v0, v1] t)).heap.size (w.alloc (.cells #[v0, v1] t)) w7) : w7.cell? ⟨w.heap.size, 1, none⟩ = some v1 := by
  have h := hb.cell (p := ⟨w.heap.size, 1, none⟩) (by simp)
  rw [h]
  simp [World.cell?_alloc_new]
theorem impl_verdict.none_ (w : World) :
    Calls Try.prog 31 #[.nilIface] w fun e w' => e = .returned (.tuple #[.int .i64 0, .slice none 0 0]) ∧ Below w.heap.size w w' := by
  go_enter Try.func31, Try.ntmps31
  go_wp2
  go_ret2
  exact ⟨rfl, Below.refl _ _⟩
set_option maxRecDepth 100000 in
theorem impl_verdict.other (p : Option Addr) (w : World) :
    Calls Try.prog 31 #[.iface 90 (.pointer p)] w fun e w' => e = .returned (.tuple #[.int .i64 2, .slice none 0 0]) ∧ Below w.heap.size w w' := by
  have ht : ∀ w : World, (Instr.typeAssert (.iface 90 (.pointer p)) 58 86 true).run Try.prog w = .ok (.tuple #[.agg #[.slice none 0 0, .slice none 0 0], .bool false]) w := fun _ => by kernel_rfl
  have hu := Try.underlying86
  go_enter Try.func31, Try.ntmps31
  go_wp2
  go_ret2
  exact ⟨rfl, by go_grown⟩
set_option maxRecDepth 100000 in
set_option maxHeartbeats 1000000 in
theorem impl_verdict.mismatch (A0 : Option Addr) (n0 c0 : Nat) (A1 : Option Addr) (c1 : Nat) (l1 : List Int) (w : World) (hr1 : Kd.C (Kd.int .u8) w A1 l1.length l1) (hc1 : l1.length ≤ c1) (hl : l1.length < 140737488355328) :
    Calls Try.prog 31 #[.iface 86 (.agg #[.slice A0 n0 c0, .slice A1 l1.length c1])] w fun e w' => ∃ v0_ : Value, e = .returned (.tuple #[.int .i64 1, v0_]) ∧ Kd.R (Kd.int .u8) 5 w' w.heap.size (fun _ => True) v0_ l1 ∧ Below w.heap.size w w' := by
  have ht : ∀ w : World, (Instr.typeAssert (.iface 86 (.agg #[.slice A0 n0 c0, .slice A1 l1.length c1])) 58 86 true).run Try.prog w = .ok (.tuple #[.agg #[.slice A0 n0 c0, .slice A1 l1.length c1], .bool true]) w := fun _ => by kernel_rfl
  have hu := Try.underlying86
  have HR1 := Aside0.mk hr1
  have HC1 := Aside0.mk hc1
  have HL := Aside0.mk hl
  clear hr1 hc1 hl
  go_enter Try.func31, Try.ntmps31
  go_wp2_with (first | ((with_reducible refine gate_dst (N := 14) rfl ?_); refine Kd.R_lit (Kd.int .u8) _ 5 ?hg (N := 14) ?hd (xs := ([] : List Int)) (inner := []) (ok := fun _ => True) (okp := fun _ => True) ?hr ?hp (fun _ hk => hk) trivial (Below.refl _ _) (Nat.le_refl _) (by simp) ?_; (case hd => rfl); (case hg => rfl); (case hr => first | (go_simp; done) | (go_simp; rfl)); (case hp => exact (Reps.none _ _)); intro v135 w7 ho8 hb hg_ hnew_; clear hg_ hnew_; have hcell := cell_of_box hb; have HO := Aside0.mk (Kd.R_lower ho8 (below_size (below_alloc (Below.refl _ _) _))); have HB := Aside0.mk (below_step (below_alloc (Below.refl _ _) _) hb); clear hb ho8) | ((with_reducible refine gate_builtin (b := .append) (xs := #[.tmp 14, .tmp 16]) rfl ?_); at_builtin; refine Kd.R_append_rows (Kd.int .u8) (w0 := w) w.heap.size rfl (.tmp 14) (.tmp 16) 30 5 (.int .u8 0) 1 rfl Try.underlying30 info5 rfl (by decide) (by omega) v135 ([] : List Int) l1 _ _ _ (fun _ => True) (fun _ => False) rfl rfl ?aO ?aR (fun _ _ h => h) (fun _ h => h.elim) ?aF ?aB ?aS ?aL ?_; (case aR => exact Kd.C_below HR1.out HB.out); (case aB => exact HB.out); (case aF => exact (fun _ _ => trivial)); (case aO => exact HO.out); (case aS => exact below_size HB.out); (case aL => have := HL.out; simp only [List.length_nil]; omega); intro v138 w9 ho hb hg hat; have HO2 := Aside0.mk ho; clear HB; have HB := Aside0.mk hb; clear ho hb hg hat HO; obtain ⟨Ao11, co11, eo11⟩ := Kd.R_slice HO2.out; subst eo11))
  go_ret2
  exact ⟨_, rfl, HO2.out, HB.out⟩
def impl_verdict.f (k : Nat) (a0_0 : Int) (l0_1 l0_2 l0_3 : List Int) : Option (Int × List Int) := if a0_0 = 0 then some (0, []) else if a0_0 = 1 then (if l0_3.length < 140737488355328 then some (1, l0_3) else none) else if a0_0 = 2 then some (2, []) else none
theorem impl_verdict.mono : ∀ a0 a1 a2 a3 k, LeO (impl_verdict.f k a0 a1 a2 a3) (impl_verdict.f (k + 1) a0 a1 a2 a3) := fun _ _ _ _ _ => LeO.refl _
theorem impl_verdict.calls (k : Nat) (a0_0 : Int) (A0_1 : Option Addr) (c0_1 : Nat) (l0_1 : List Int) (A0_2 : Option Addr) (c0_2 : Nat) (l0_2 : List Int) (A0_3 : Option Addr) (c0_3 : Nat) (l0_3 : List Int) (r1 : Int) (r2 : List Int) (w : World)
    (hr0_1 : Kd.C (Kd.int .u8) w A0_1 l0_1.length l0_1) (hc0_1 : l0_1.length ≤ c0_1) (hr0_2 : Kd.C (Kd.int .u8) w A0_2 l0_2.length l0_2) (hc0_2 : l0_2.length ≤ c0_2) (hr0_3 : Kd.C (Kd.int .u8) w A0_3 l0_3.length l0_3) (hc0_3 : l0_3.length ≤ c0_3) (h : impl_verdict.f k a0_0 l0_1 l0_2 l0_3 = some (r1, r2)) :
    Calls Try.prog 31 #[errVc #[.int .i64 a0_0, .slice A0_1 l0_1.length c0_1, .slice A0_2 l0_2.length c0_2, .slice A0_3 l0_3.length c0_3]] w fun e w' => ∃ v0_ : Value, e = .returned (.tuple #[.int .i64 r1, v0_]) ∧ Kd.R (Kd.int .u8) 5 w' w.heap.size (fun _ => True) v0_ r2 ∧ Below w.heap.size w w' := by
  unfold impl_verdict.f at h
  by_cases h0 : a0_0 = 0
  · rw [if_pos h0] at h
    simp only [Option.some.injEq, Prod.mk.injEq] at h
    obtain ⟨rfl, rfl⟩ := h
    subst h0
    rw [errVc0]
    exact (impl_verdict.none_ w).mono fun e w' ⟨he, hb⟩ => ⟨_, he, Kd.R_nil _ _ _ _ _, hb⟩
  · rw [if_neg h0] at h
    by_cases h1 : a0_0 = 1
    · rw [if_pos h1] at h
      by_cases hl : l0_3.length < 140737488355328
      · rw [if_pos hl] at h
        simp only [Option.some.injEq, Prod.mk.injEq] at h
        obtain ⟨rfl, rfl⟩ := h
        subst h1
        rw [errVc1]
        exact impl_verdict.mismatch _ _ _ _ _ _ w hr0_3 hc0_3 hl
      · rw [if_neg hl] at h
        cases h
    · rw [if_neg h1] at h
      by_cases h2 : a0_0 = 2
      · rw [if_pos h2] at h
        simp only [Option.some.injEq, Prod.mk.injEq] at h
        obtain ⟨rfl, rfl⟩ := h
        subst h2
        rw [errVc2]
        exact (impl_verdict.other _ w).mono fun e w' ⟨he, hb⟩ => ⟨_, he, Kd.R_nil _ _ _ _ _, hb⟩
      · rw [if_neg h2] at h
        cases h

end Go.Proofs.Ytkmdkmlgahfcpaa.M

namespace Go.Proofs.Ytkmdkmlgahfcpaa.M
open Go.RowKit Go.Proofs.YtkmdkmlgahfcpaaW.PrintWords Go.Proofs.YtkmdkmlgahfcpaaW.PrintLast Go.Proofs.YtkmdkmlgahfcpaaW.PrintMore
attribute [local go_sem] max2_int min2_int max_two min_two max_three min_three max_four min_four   -- for this text's walks alone
set_option linter.unusedVariables false
set_option linter.unusedSimpArgs false

/-! ### errors_New: function 36 -/
def errors_New.f (a0 : ByteArray) : Option (Option Int) := some (some 0)
theorem errors_New.calls (a0 : ByteArray) (r : Option Int) (w : World) (h : errors_New.f a0 = some r) :
    Calls Try.prog 36 #[.string a0] w fun e w' => ∃ (T_ : Int → TypeId) (X_ : Int → Value), e = .returned (errW T_ X_ r) ∧ Below w.heap.size w w' := by
  injection h with h
  subst h
  go_enter Try.func36, Try.ntmps36
  go_wp2
  go_ret
  exact ⟨fun _ => 90, fun _ => .pointer (some ⟨w.heap.size, 0, none⟩), rfl, (Below.refl _ _).alloc (Nat.le_refl _) _⟩

end Go.Proofs.Ytkmdkmlgahfcpaa.M

namespace Go.Proofs.Ytkmdkmlgahfcpaa.M
open Go.RowKit Go.Proofs.YtkmdkmlgahfcpaaW.PrintWords Go.Proofs.YtkmdkmlgahfcpaaW.PrintLast Go.Proofs.YtkmdkmlgahfcpaaW.PrintMore
attribute [local go_sem] max2_int min2_int max_two min_two max_three min_three max_four min_four   -- for this text's walks alone
set_option linter.unusedVariables false
set_option linter.unusedSimpArgs false

/-! ### bits_OnesCount64: function 46 -/
theorem bits_OnesCount64.walk (x1 x2 x3 x4 x5 x6 r x : Int) (w : World)
    (e1 : IntKind.u64.wrap (Go.bits .and .u64 (x / 2) 6148914691236517205 + Go.bits .and .u64 x 6148914691236517205) = x1)
    (e2 : IntKind.u64.wrap (Go.bits .and .u64 (x1 / 4) 3689348814741910323 + Go.bits .and .u64 x1 3689348814741910323) = x2)
    (e3 : Go.bits .and .u64 (IntKind.u64.wrap (x2 / 16 + x2)) 1085102592571150095 = x3)
    (e4 : IntKind.u64.wrap (x3 + x3 / 256) = x4) (e5 : IntKind.u64.wrap (x4 + x4 / 65536) = x5) (e6 : IntKind.u64.wrap (x5 + x5 / 4294967296) = x6)
    (e7 : Go.bits .and .i64 (wrap64 x6) 127 = r) :
    Calls Try.prog 46 #[.int .u64 x] w fun e w' => e = .returned (.int .i64 r) ∧ w' = w := by
  go_enter Try.func46, Try.ntmps46
  go_wp2
  go_ret
  exact ⟨rfl, rfl⟩
def bits_OnesCount64.f (a0 : Int) : Option (Int) := if 0 ≤ a0 ∧ a0 ≤ 18446744073709551615 then some (Lib.onesCount a0.toNat : Int) else none
theorem bits_OnesCount64.calls (a0 : Int) (r : Int) (w : World) (h : bits_OnesCount64.f a0 = some r) :
    Calls Try.prog 46 #[.int .u64 a0] w fun e w' => e = .returned (.int .i64 r) ∧ Drawn0 w w' := by
  unfold bits_OnesCount64.f at h
  split at h
  · rename_i hc
    injection h with h
    obtain ⟨x, rfl⟩ : ∃ x : Nat, a0 = (x : Int) := ⟨a0.toNat, by omega⟩
    rw [Int.toNat_natCast] at h
    refine (bits_OnesCount64.walk _ _ _ _ _ _ r x w rfl rfl rfl rfl rfl rfl (by rw [← h]; exact Ones.swar x (by omega))).mono ?_
    rintro e w' ⟨rfl, rfl⟩
    exact ⟨rfl, Drawn0.refl _⟩
  · cases h

end Go.Proofs.Ytkmdkmlgahfcpaa.M

namespace Go.Proofs.Ytkmdkmlgahfcpaa.M
open Go.RowKit Go.Proofs.YtkmdkmlgahfcpaaW.PrintWords Go.Proofs.YtkmdkmlgahfcpaaW.PrintLast Go.Proofs.YtkmdkmlgahfcpaaW.PrintMore
attribute [local go_sem] max2_int min2_int max_two min_two max_three min_three max_four min_four   -- for this text's walks alone
set_option linter.unusedVariables false
set_option linter.unusedSimpArgs false

/-! ### bits_Len64: function 49 -/
def bits_Len64.f (a0 : Int) : Option (Int) := if 0 ≤ a0 ∧ a0 ≤ 18446744073709551615 then some (Lib.bitLen a0.toNat : Int) else none
theorem bits_Len64.calls (a0 : Int) (r : Int) (w : World) (h : bits_Len64.f a0 = some r) :
    Calls Try.prog 49 #[.int .u64 a0] w fun e w' => e = .returned (.int .i64 r) ∧ Drawn0 w w' := by
  unfold bits_Len64.f at h
  split at h
  · rename_i hc
    injection h with h
    subst h
    refine (Try.bits_Len64 a0 w hc.1 hc.2).mono ?_
    rintro e w' ⟨rfl, rfl⟩
    exact ⟨rfl, Drawn0.refl _⟩
  · cases h

end Go.Proofs.Ytkmdkmlgahfcpaa.M

namespace Go.Proofs.Ytkmdkmlgahfcpaa.M
open Go.RowKit Go.Proofs.YtkmdkmlgahfcpaaW.PrintWords Go.Proofs.YtkmdkmlgahfcpaaW.PrintLast Go.Proofs.YtkmdkmlgahfcpaaW.PrintMore
attribute [local go_sem] max2_int min2_int max_two min_two max_three min_three max_four min_four   -- for this text's walks alone
set_option linter.unusedVariables false
set_option linter.unusedSimpArgs false

/-! ### proof_innerProofSize: function 47 -/
def proof_innerProofSize.f (a0 : Int) (a1 : Int) : Option (Int) := (bits_Len64.f (Go.bits .xor .u64 a0 (IntKind.u64.wrap (a1 - 1)))).bind fun t113 => (some t113)
set_option maxHeartbeats 8000000 in
set_option maxRecDepth 100000 in
theorem proof_innerProofSize.calls (a0 : Int) (a1 : Int) (r : Int) (w : World) (h : proof_innerProofSize.f a0 a1 = some r) :
    Calls Try.prog 47 #[.int .u64 a0, .int .u64 a1] w fun e w' => e = .returned (.int .i64 r) ∧ Drawn0 w w' := by
  have H : ((bits_Len64.f (Go.bits .xor .u64 a0 (IntKind.u64.wrap (a1 - 1)))).bind fun t113 => (some t113)) = some r := h
  clear h
  replace H := Option.bind_eq_some_iff.mp H
  obtain ⟨t113, A30, H⟩ := H
  replace H : (some t113) = some r := H
  have A3 := Aside0.mk A30
  clear A30
  obtain rfl := Option.some.inj H
  go_enter Try.func47, Try.ntmps47
  go_wp2_with (first | ((with_reducible refine gate_callee (f := 49) rfl ?_); refine goesL_ (some 9) rfl rfl Try.func49 (by kernel_rfl) rfl #[.int .u64 (Go.bits .xor .u64 a0 (IntKind.u64.wrap (a1 - 1)))] rfl (by (try simp only [List.map_toArray, List.map_cons, List.map_nil]); first | done | rfl | (simp only [List.length_drop, List.length_take]; rfl)) ?_; (with_reducible refine (bits_Len64.calls (Go.bits .xor .u64 a0 (IntKind.u64.wrap (a1 - 1))) t113 _ A3.out).mono ?_); rintro e w' ⟨rfl, ⟨nd, rfl⟩⟩; refine ⟨_, rfl, ?_⟩))
  go_ret
  exact ⟨by first | rfl | (simp; done) | (simp [*]; done), by repeat (first | exact Drawn0.refl _ | apply Drawn0.step)⟩

end Go.Proofs.Ytkmdkmlgahfcpaa.M

namespace Go.Proofs.Ytkmdkmlgahfcpaa.M
open Go.RowKit Go.Proofs.YtkmdkmlgahfcpaaW.PrintWords Go.Proofs.YtkmdkmlgahfcpaaW.PrintLast Go.Proofs.YtkmdkmlgahfcpaaW.PrintMore
attribute [local go_sem] max2_int min2_int max_two min_two max_three min_three max_four min_four   -- for this text's walks alone
set_option linter.unusedVariables false
set_option linter.unusedSimpArgs false

/-! ### proof_decompInclProof: function 40 -/
def proof_decompInclProof.f (a0 : Int) (a1 : Int) : Option (Int × Int) := (proof_innerProofSize.f a0 a1).bind fun t114 => (if 0 ≤ (IntKind.u64.wrap (t114)) then ((bits_OnesCount64.f (shr .u64 a0 (IntKind.u64.wrap (t114)))).bind fun t115 => (some (t114, t115))) else (none))
set_option maxHeartbeats 8000000 in
set_option maxRecDepth 100000 in
theorem proof_decompInclProof.calls (a0 : Int) (a1 : Int) (r1 : Int) (r2 : Int) (w : World) (h : proof_decompInclProof.f a0 a1 = some (r1, r2)) :
    Calls Try.prog 40 #[.int .u64 a0, .int .u64 a1] w fun e w' => e = .returned (.tuple #[.int .i64 r1, .int .i64 r2]) ∧ Drawn0 w w' := by
  have H : ((proof_innerProofSize.f a0 a1).bind fun t114 => (if 0 ≤ (IntKind.u64.wrap (t114)) then ((bits_OnesCount64.f (shr .u64 a0 (IntKind.u64.wrap (t114)))).bind fun t115 => (some (t114, t115))) else (none))) = some (r1, r2) := h
  clear h
  replace H := Option.bind_eq_some_iff.mp H
  obtain ⟨t114, A30, H⟩ := H
  replace H : (if 0 ≤ (IntKind.u64.wrap (t114)) then ((bits_OnesCount64.f (shr .u64 a0 (IntKind.u64.wrap (t114)))).bind fun t115 => (some (t114, t115))) else (none)) = some (r1, r2) := H
  have A3 := Aside0.mk A30
  clear A30
  obtain ⟨ji4, hji4⟩ : ∃ j_ : Int, (IntKind.u64.wrap (t114)) = j_ := ⟨_, rfl⟩
  replace H : (if 0 ≤ (ji4) then ((bits_OnesCount64.f (shr .u64 a0 (ji4))).bind fun t115 => (some (t114, t115))) else (none)) = some (r1, r2) := by first | (rw [hji4] at H; exact H) | (simp only [hji4] at H ⊢; exact H)
  (try rw [hji4] at A3)
  by_cases c5 : 0 ≤ (ji4)
  · rw [if_pos c5] at H
    have c5b0 := eq_true c5
    have c5b1 : decide (0 ≤ (ji4)) = true := decide_eq_true c5
    clear c5
    obtain ⟨ji6, hji6⟩ : ∃ j_ : Int, (shr .u64 a0 (ji4)) = j_ := ⟨_, rfl⟩
    replace H : ((bits_OnesCount64.f (ji6)).bind fun t115 => (some (t114, t115))) = some (r1, r2) := by first | (rw [hji6] at H; exact H) | (simp only [hji6] at H ⊢; exact H)
    (try rw [hji6] at A3)
    have hji6_ : (a0 / 2 ^ min (ji4).toNat 64) = ji6 := hji6
    have hji6z : (ji4) ≤ 64 → (a0 / 2 ^ (ji4).toNat) = ji6 := shr_small hji6
    replace H := Option.bind_eq_some_iff.mp H
    obtain ⟨t115, A70, H⟩ := H
    replace H : (some (t114, t115)) = some (r1, r2) := H
    have A7 := Aside0.mk A70
    clear A70
    simp only [Option.some.injEq, Prod.mk.injEq] at H
    obtain ⟨rfl, rfl⟩ := H
    go_enter Try.func40, Try.ntmps40
    go_wp2_with (first | ((with_reducible refine gate_callee (f := 47) rfl ?_); refine goesL_ (some 10) rfl rfl Try.func47 (by kernel_rfl) rfl #[.int .u64 a0, .int .u64 a1] rfl (by (try simp only [List.map_toArray, List.map_cons, List.map_nil]); first | done | rfl | (simp only [List.length_drop, List.length_take]; rfl)) ?_; (with_reducible refine (proof_innerProofSize.calls a0 a1 t114 _ A3.out).mono ?_); rintro e w' ⟨rfl, ⟨nd, rfl⟩⟩; refine ⟨_, rfl, ?_⟩) | ((with_reducible refine gate_callee (f := 46) rfl ?_); refine goesL_ (some 15) rfl rfl Try.func46 (by kernel_rfl) rfl #[.int .u64 ji6] rfl (by (try simp only [List.map_toArray, List.map_cons, List.map_nil]); first | done | (simp only [hji6]; rfl) | rfl | (simp only [List.length_drop, List.length_take]; rfl)) ?_; (with_reducible refine (bits_OnesCount64.calls ji6 t115 _ A7.out).mono ?_); rintro e w' ⟨rfl, ⟨nd, rfl⟩⟩; refine ⟨_, rfl, ?_⟩))
    go_ret2
    exact ⟨by first | rfl | (simp; done) | (simp only [← hji4, ← hji6] <;> (first | rfl | simp)) | (simp [*]; done), by repeat (first | exact Drawn0.refl _ | apply Drawn0.step)⟩
  · rw [if_neg c5] at H
    exact absurd H (by simp)

end Go.Proofs.Ytkmdkmlgahfcpaa.M

namespace Go.Proofs.Ytkmdkmlgahfcpaa.M
open Go.RowKit Go.Proofs.YtkmdkmlgahfcpaaW.PrintWords Go.Proofs.YtkmdkmlgahfcpaaW.PrintLast Go.Proofs.YtkmdkmlgahfcpaaW.PrintMore
attribute [local go_sem] max2_int min2_int max_two min_two max_three min_three max_four min_four   -- for this text's walks alone
set_option linter.unusedVariables false
set_option linter.unusedSimpArgs false

/-! ### impl_word: function 34 -/
mutual
def impl_word.j0 : Nat → Int → Int → Bool → Option (List Int)
  | 0, _, _, _ => none
  | k + 1, x0, x1, x12 => if x12 = true then (impl_word.j1 k x0 8) else (impl_word.j1 k x0 x1)
def impl_word.j1 : Nat → Int → Int → Option (List Int)
  | 0, _, _ => none
  | k + 1, x0, x1 => if 0 ≤ x1 then (if (x1 : Int).toNat ≤ 281474976710656 then ((some (List.replicate (x1 : Int).toNat 0 : List Int)).bind fun y116 => (impl_word.l0 k x0 x1 y116 (y116.length : Int) 0)) else (none)) else (none)
def impl_word.l0 : Nat → Int → Int → List Int → Int → Int → Option (List Int)
  | 0, _, _, _, _, _ => none
  | k + 1, x0, x1, x5, x16, x17 => if x17 < x16 then (if 0 ≤ (wrap64 (8 * x17)) then (if 0 ≤ (wrap64 ((wrap64 (x1 - 1)) - x17)) then (if (wrap64 ((wrap64 (x1 - 1)) - x17)) < (x5.length : Int) then (impl_word.l0 k x0 x1 (x5.set ((wrap64 ((wrap64 (x1 - 1)) - x17)) : Int).toNat ((shr .u64 x0 (wrap64 (8 * x17))) % 256)) x16 (wrap64 (x17 + 1))) else (none)) else (none)) else (none)) else (some x5)
end
def impl_word.f (k : Nat) (a0 : Int) (a1 : Int) : Option (List Int) := if a1 < 1 then (impl_word.j0 k a0 a1 true) else (impl_word.j0 k a0 a1 (decide (a1 > 8)))
theorem impl_word.mono_l : ∀ k, (∀ y0 y1 y2, LeO (impl_word.j0 k y0 y1 y2) (impl_word.j0 (k + 1) y0 y1 y2)) ∧ (∀ y0 y1, LeO (impl_word.j1 k y0 y1) (impl_word.j1 (k + 1) y0 y1)) ∧ (∀ y0 y1 y2 y3 y4, LeO (impl_word.l0 k y0 y1 y2 y3 y4) (impl_word.l0 (k + 1) y0 y1 y2 y3 y4))
  | 0 => ⟨fun _ _ _ r h => by simp [impl_word.j0] at h, fun _ _ r h => by simp [impl_word.j1] at h, fun _ _ _ _ _ r h => by simp [impl_word.l0] at h⟩
  | k + 1 => by
    obtain ⟨ih0, ih1, ih2⟩ := impl_word.mono_l k
    refine ⟨?_, ?_, ?_⟩
    · intro y0 y1 y2
      unfold impl_word.j0
      repeat' first
      | (with_reducible exact ih0 _ _ _)
      | (with_reducible exact ih1 _ _)
      | (with_reducible exact ih2 _ _ _ _ _)
      | (with_reducible exact LeO.refl _)
      | (with_reducible exact LeO.none _)
      | (with_reducible refine LeO.ite ?_ ?_)
      | (with_reducible refine LeO.bind ?_ (fun _ => ?_))
      | exact ih0 _ _ _
      | exact ih1 _ _
      | exact ih2 _ _ _ _ _
      | exact LeO.none _
      | refine LeO.ite ?_ ?_
      | refine LeO.bind ?_ (fun _ => ?_)
    · intro y0 y1
      unfold impl_word.j1
      repeat' first
      | (with_reducible exact ih0 _ _ _)
      | (with_reducible exact ih1 _ _)
      | (with_reducible exact ih2 _ _ _ _ _)
      | (with_reducible exact LeO.refl _)
      | (with_reducible exact LeO.none _)
      | (with_reducible refine LeO.ite ?_ ?_)
      | (with_reducible refine LeO.bind ?_ (fun _ => ?_))
      | exact ih0 _ _ _
      | exact ih1 _ _
      | exact ih2 _ _ _ _ _
      | exact LeO.none _
      | refine LeO.ite ?_ ?_
      | refine LeO.bind ?_ (fun _ => ?_)
    · intro y0 y1 y2 y3 y4
      unfold impl_word.l0
      repeat' first
      | (with_reducible exact ih0 _ _ _)
      | (with_reducible exact ih1 _ _)
      | (with_reducible exact ih2 _ _ _ _ _)
      | (with_reducible exact LeO.refl _)
      | (with_reducible exact LeO.none _)
      | (with_reducible refine LeO.ite ?_ ?_)
      | (with_reducible refine LeO.bind ?_ (fun _ => ?_))
      | exact ih0 _ _ _
      | exact ih1 _ _
      | exact ih2 _ _ _ _ _
      | exact LeO.none _
      | refine LeO.ite ?_ ?_
      | refine LeO.bind ?_ (fun _ => ?_)
theorem impl_word.mono : ∀ a0 a1 k, LeO (impl_word.f k a0 a1) (impl_word.f (k + 1) a0 a1) := by
  intro a0 a1 k
  obtain ⟨ih0, ih1, ih2⟩ := impl_word.mono_l k
  unfold impl_word.f
  repeat' first
      | (with_reducible exact ih0 _ _ _)
      | (with_reducible exact ih1 _ _)
      | (with_reducible exact ih2 _ _ _ _ _)
      | (with_reducible exact LeO.refl _)
      | (with_reducible exact LeO.none _)
      | (with_reducible refine LeO.ite ?_ ?_)
      | (with_reducible refine LeO.bind ?_ (fun _ => ?_))
      | exact ih0 _ _ _
      | exact ih1 _ _
      | exact ih2 _ _ _ _ _
      | exact LeO.none _
      | refine LeO.ite ?_ ?_
      | refine LeO.bind ?_ (fun _ => ?_)
set_option maxHeartbeats 8000000 in
set_option maxRecDepth 100000 in
theorem impl_word.calls (k : Nat) (a0 : Int) (a1 : Int) (r : List Int) (w : World) (h : impl_word.f k a0 a1 = some r) :
    Calls Try.prog 34 #[.int .u64 a0, .int .i64 a1] w fun e w' => ∃ v0_ : Value, e = .returned (v0_) ∧ Kd.R (Kd.int .u8) 5 w' w.heap.size (fun _ => True) v0_ r ∧ Below w.heap.size w w' := by
  have HB := Aside0.mk (Below.refl w.heap.size w)
  have H : (if a1 < 1 then (impl_word.j0 k a0 a1 true) else (impl_word.j0 k a0 a1 (decide (a1 > 8)))) = some r := h
  clear h
  have HC3 := Aside0.mk H
  clear H
  go_enter Try.func34, Try.ntmps34
  go_upto_region 1 with (fail)
  go_cut [12] (fun v12 wc => ∃ (kq : Nat) (x12_2 : Bool), v12 = .bool x12_2 ∧ Aside0 (impl_word.j0 kq a0 a1 x12_2 = some r) ∧ Aside0 (kq ≤ k) ∧ Aside0 (Below w.heap.size w wc))
  case first =>
    have H := HC3.out
    clear HC3
    by_cases c4 : a1 < 1
    · rw [if_pos c4] at H
      have c4b0 : decide (a1 < 1) = true := decide_eq_true c4
      clear c4
      (first | rw [c4b0] | (simp only [i64_w, i32_w]; rw [c4b0]) | skip)
      have H' := Aside0.mk H
      clear H
      go_wp2
      go_meet
      case rel => exact ⟨_, (true), (by first | rfl | (simp; done) | (simp [*]; done)), H', ⟨by first | omega | exact Nat.le_refl _⟩, ⟨by repeat (first | (with_reducible first | exact HB.out | apply below_alloc | apply pw_below_drewN | apply below_drew1) | exact HB.out)⟩⟩
    · rw [if_neg c4] at H
      have c4b0 : decide (a1 < 1) = false := decide_eq_false c4
      clear c4
      (first | rw [c4b0] | (simp only [i64_w, i32_w]; rw [c4b0]) | skip)
      have H' := Aside0.mk H
      clear H
      go_wp2
      go_meet
      case rel => exact ⟨_, (decide (a1 > 8)), (by first | rfl | (simp; done) | (simp [*]; done)), H', ⟨by first | omega | exact Nat.le_refl _⟩, ⟨by repeat (first | (with_reducible first | exact HB.out | apply below_alloc | apply pw_below_drewN | apply below_drew1) | exact HB.out)⟩⟩
  case rest =>
    clear HC3
    try clear p2
    try clear c3
    try clear c4
    try clear c4b0
    obtain ⟨kq, x12_2, rfl, HA, HJ2, HB⟩ := hcut
    cases kq with
    | zero => exact absurd HA.out (by simp [impl_word.j0])
    | succ kj2 =>
      have H := HA.out
      clear HA
      simp only [impl_word.j0] at H
      have HC5 := Aside0.mk H
      clear H
      go_upto_if 12 with (fail)
      go_cut [1] (fun v1 wc => ∃ (kq : Nat) (x1_4 : Int), v1 = .int .i64 x1_4 ∧ Aside0 (impl_word.j1 kq a0 x1_4 = some r) ∧ Aside0 (kq ≤ kj2) ∧ Aside0 (Below w.heap.size w wc))
      case first =>
        have H := HC5.out
        clear HC5
        by_cases c6 : x12_2 = true
        · subst c6
          have H1 : (impl_word.j1 kj2 a0 8) = some r := by rw [if_pos rfl] at H; exact H
          clear H
          have H := H1
          clear H1
          have H' := Aside0.mk H
          clear H
          go_wp2
          go_meet
          case rel => exact ⟨_, (8), (by first | rfl | (simp; done) | (simp [*]; done)), H', ⟨by have := HJ2.out; first | omega | exact Nat.le_refl _⟩, ⟨by repeat (first | (with_reducible first | exact HB.out | apply below_alloc | apply pw_below_drewN | apply below_drew1) | exact HB.out)⟩⟩
        · replace c6 := Bool.eq_false_iff.mpr c6
          subst c6
          have H1 : (impl_word.j1 kj2 a0 a1) = some r := by rw [if_neg (show ¬ (false = true) by decide)] at H; exact H
          clear H
          have H := H1
          clear H1
          have H' := Aside0.mk H
          clear H
          go_wp2
          go_meet
          case rel => exact ⟨_, (a1), (by first | rfl | (simp; done) | (simp [*]; done)), H', ⟨by have := HJ2.out; first | omega | exact Nat.le_refl _⟩, ⟨by repeat (first | (with_reducible first | exact HB.out | apply below_alloc | apply pw_below_drewN | apply below_drew1) | exact HB.out)⟩⟩
      case rest =>
        clear HC5
        try clear p2
        try clear c3
        try clear c4
        try clear c4b0
        try clear c6
        try clear p2
        obtain ⟨kq, x1_4, rfl, HA, HJ4, HB⟩ := hcut
        cases kq with
        | zero => exact absurd HA.out (by simp [impl_word.j1])
        | succ kj4 =>
          have H := HA.out
          clear HA
          simp only [impl_word.j1] at H
          by_cases c7 : 0 ≤ x1_4
          · rw [if_pos c7] at H
            have c7b0 := eq_true c7
            have c7b1 : decide (0 ≤ x1_4) = true := decide_eq_true c7
            clear c7
            by_cases c8 : (x1_4 : Int).toNat ≤ 281474976710656
            · rw [if_pos c8] at H
              have c8b0 := eq_true c8
              have c8b1 : decide ((x1_4 : Int).toNat ≤ 281474976710656) = true := decide_eq_true c8
              clear c8
              obtain ⟨y116, hy116⟩ : ∃ y_ : List Int, y_ = (List.replicate (x1_4 : Int).toNat 0) := ⟨_, rfl⟩
              replace H : (impl_word.l0 kj4 a0 x1_4 y116 (y116.length : Int) 0) = some r := by first | (rw [hy116]; with_reducible exact H) | (have H2_ := (Option.bind_some _ _).symm.trans H; rw [hy116]; with_reducible exact H2_) | (have H2_ := (Option.bind_some _ _).symm.trans H; with_reducible exact H2_) | with_reducible exact H | (rw [hy116]; exact H) | exact H
              have Ny116 := Aside0.mk hy116
              clear hy116
              have H' := Aside0.mk H
              clear H
              go_wp2_with (first | ((with_reducible refine gate_dst (N := 14) rfl ?_); refine Kd.R_make (Kd.int .u8) _ 5 rfl (N := 14) rfl 30 _ _ rfl x1_4 rfl rfl Try.underlying30 (.int .u8 0) 1 info5 rfl (by decide) (by omega) 0 (ok := fun _ => True) (okp := fun _ => True) rfl (fun _ hk => hk) trivial (of_decide_eq_true (by first | (with_reducible assumption) | assumption)) (Nat.le_trans (Nat.mul_le_mul_right _ (of_decide_eq_true (by first | (with_reducible assumption) | assumption) : x1_4.toNat ≤ 281474976710656)) (by omega)) (Below.refl _ _) (Nat.le_refl _) ?_; intro v117 w9 ho10 hb hg_ hnew_; clear hg_ hnew_; (first | rw [← Ny116.out] at ho10 | (simp only [Int.reduceToNat] at ho10; rw [← Ny116.out] at ho10)); have n0_ := Aside0.mk (Kd.R_lower ho10 (below_size (by repeat (first | (with_reducible first | exact HB.out | apply below_alloc | apply pw_below_drewN | apply below_drew1) | exact HB.out)))); have n1_ := Aside0.mk (below_step (by repeat (first | (with_reducible first | exact HB.out | apply below_alloc | apply pw_below_drewN | apply below_drew1) | exact HB.out)) hb); clear HB; have HO118 := n0_; have HB := n1_; clear n0_ n1_; clear hb ho10; obtain ⟨Ao11, co11, eo11⟩ := Kd.R_slice HO118.out; subst eo11))
              go_loopg [17] kj4 (fun kq v17 w' => ∃ (x5_3 : List Int) (x17_3 : Int), v17 = .int .i64 x17_3 ∧ Aside0 (impl_word.l0 kq a0 x1_4 x5_3 (y116.length : Int) x17_3 = some r) ∧ Aside0 (kq ≤ kj4) ∧ Aside0 (Kd.R (Kd.int .u8) 5 w' w.heap.size (fun _ => True) (.slice Ao11 y116.length co11) x5_3) ∧ Aside0 (Below w.heap.size w w'))
              case atStart => exact ⟨(y116), (0), (by first | rfl | (simp; done) | (simp [*]; done)), H', ⟨Nat.le_refl _⟩, ⟨by (with_reducible repeat (first | apply Kd.R_alloc | apply Kd.R_drewN | apply Kd.R_drew)); exact HO118.out⟩, ⟨by repeat (first | (with_reducible first | exact HB.out | apply below_alloc | apply pw_below_drewN | apply below_drew1) | exact HB.out)⟩⟩
              case round =>
                clear H'
                try clear p2
                try clear c3
                try clear c4
                try clear c4b0
                try clear c6
                try clear c7
                try clear c7b0
                try clear c7b1
                try clear c8
                try clear c8b0
                try clear c8b1
                try clear p2
                obtain ⟨x5_3, x17_3, rfl, HA, HK3, HO_5, HB⟩ := hrel
                have hl5_3 := (Kd.R_reads' HO_5.out).1
                rw [hl5_3] at HO_5
                (try simp only [hl5_3])
                cases gk with
                | zero => exact absurd HA.out (by simp [impl_word.l0])
                | succ k3 =>
                  have H := HA.out
                  clear HA
                  simp only [impl_word.l0] at H
                  by_cases c12 : x17_3 < (y116.length : Int)
                  · rw [if_pos c12] at H
                    have c12b0 : decide (x17_3 < (y116.length : Int)) = true := decide_eq_true c12
                    (try (have c12b0hl5_3 := c12b0; rw [hl5_3] at c12b0hl5_3))
                    clear c12
                    obtain ⟨ji13, hji13⟩ : ∃ j_ : Int, (wrap64 (8 * x17_3)) = j_ := ⟨_, rfl⟩
                    replace H : (if 0 ≤ (ji13) then (if 0 ≤ (wrap64 ((wrap64 (x1_4 - 1)) - x17_3)) then (if (wrap64 ((wrap64 (x1_4 - 1)) - x17_3)) < (x5_3.length : Int) then (impl_word.l0 k3 a0 x1_4 (x5_3.set ((wrap64 ((wrap64 (x1_4 - 1)) - x17_3)) : Int).toNat ((shr .u64 a0 (ji13)) % 256)) (y116.length : Int) (wrap64 (x17_3 + 1))) else (none)) else (none)) else (none)) = some r := by first | (rw [hji13] at H; exact H) | (simp only [hji13] at H ⊢; exact H)
                    have hji13w : (IntKind.i64.wrap (8 * x17_3)) = ji13 := (i64_w _).trans hji13
                    by_cases c14 : 0 ≤ (ji13)
                    · rw [if_pos c14] at H
                      have c14b0 := eq_true c14
                      have c14b1 : decide (0 ≤ (ji13)) = true := decide_eq_true c14
                      clear c14
                      obtain ⟨ji15, hji15⟩ : ∃ j_ : Int, (shr .u64 a0 (ji13)) = j_ := ⟨_, rfl⟩
                      replace H : (if 0 ≤ (wrap64 ((wrap64 (x1_4 - 1)) - x17_3)) then (if (wrap64 ((wrap64 (x1_4 - 1)) - x17_3)) < (x5_3.length : Int) then (impl_word.l0 k3 a0 x1_4 (x5_3.set ((wrap64 ((wrap64 (x1_4 - 1)) - x17_3)) : Int).toNat ((ji15) % 256)) (y116.length : Int) (wrap64 (x17_3 + 1))) else (none)) else (none)) = some r := by first | (rw [hji15] at H; exact H) | (simp only [hji15] at H ⊢; exact H)
                      have hji15_ : (a0 / 2 ^ min (ji13).toNat 64) = ji15 := hji15
                      have hji15z : (ji13) ≤ 64 → (a0 / 2 ^ (ji13).toNat) = ji15 := shr_small hji15
                      obtain ⟨ji16, hji16⟩ : ∃ j_ : Int, (wrap64 ((wrap64 (x1_4 - 1)) - x17_3)) = j_ := ⟨_, rfl⟩
                      replace H : (if 0 ≤ (ji16) then (if (ji16) < (x5_3.length : Int) then (impl_word.l0 k3 a0 x1_4 (x5_3.set ((ji16) : Int).toNat ((ji15) % 256)) (y116.length : Int) (wrap64 (x17_3 + 1))) else (none)) else (none)) = some r := by first | (rw [hji16] at H; exact H) | (simp only [hji16] at H ⊢; exact H)
                      have hji16w : (IntKind.i64.wrap ((wrap64 (x1_4 - 1)) - x17_3)) = ji16 := (i64_w _).trans hji16
                      by_cases c17 : 0 ≤ (ji16)
                      · rw [if_pos c17] at H
                        have c17b0 : decide (0 ≤ (ji16)) = true := decide_eq_true c17
                        clear c17
                        by_cases c18 : (ji16) < (x5_3.length : Int)
                        · rw [if_pos c18] at H
                          have c18b0 : decide ((ji16) < (x5_3.length : Int)) = true := decide_eq_true c18
                          (try (have c18b0hl5_3 := c18b0; rw [hl5_3] at c18b0hl5_3))
                          clear c18
                          obtain ⟨y119, hy119⟩ : ∃ y_ : List Int, y_ = (x5_3.set ((ji16) : Int).toNat ((ji15) % 256)) := ⟨_, rfl⟩
                          replace H : (impl_word.l0 k3 a0 x1_4 y119 (y116.length : Int) (wrap64 (x17_3 + 1))) = some r := by first | (rw [hy119]; with_reducible exact H) | (have H2_ := (Option.bind_some _ _).symm.trans H; rw [hy119]; with_reducible exact H2_) | (have H2_ := (Option.bind_some _ _).symm.trans H; with_reducible exact H2_) | with_reducible exact H | (rw [hy119]; exact H) | exact H
                          have Ny119 := Aside0.mk hy119
                          clear hy119
                          have H' := Aside0.mk H
                          clear H
                          have p19 : 0 ≤ ((ji16) : Int) := of_decide_eq_true (by first | (with_reducible assumption) | assumption)
                          have q19 : ((ji16) : Int) < ((x5_3.length : Int) : Int) := of_decide_eq_true (by first | (with_reducible assumption) | assumption)
                          obtain ⟨go19, co19, eo19, gb19, gl19, cl19, HG19⟩ := Kd.R_form HO_5.out (by omega)
                          (first | cases eo19 | (injection eo19 with ea_ en_ ec_; (first | subst ea_ | (injection ea_ with ea_; subst ea_)); subst ec_; clear en_))
                          have GB19 := Aside0.mk gb19
                          have GG19 := Aside0.mk HG19
                          clear gb19 gl19 HG19
                          obtain ⟨hx19_0, hf19_0⟩ := Kd.R_celln 0 HO_5.out ((ji16) : Int) p19 q19
                          replace p19 := eq_true p19
                          replace q19 := eq_true q19
                          have HP20 := Kd.R_putg HO_5.out ((ji16) : Int) ((ji15) % 256)
                          go_wp2_with (first | ((with_reducible refine gate_store (t := 5) (p := 30) rfl ?_); refine store_event (t := 5) (p := 30) (v := ?vo_w21) (w1 := (wr.setCell ⟨go19, ((ji16) : Int).toNat, none⟩ (.int .u8 ((ji15) % 256)))) ?hg ?ho ?hn ?hr ?_; (case ho => rfl); (case hg => rfl); (case hn => rfl); (case hr => first | (go_simp; done) | (go_simp; rfl)); intro w21 hw; have hg : wr.grownBy w21 (some go19) := (by rw [hw]; exact HP20.2); have hp_ : Kd.R (Kd.int .u8) 5 w21 w.heap.size (fun _ => True) (.slice (some ⟨go19, 0, none⟩) x5_3.length co11) y119 := (by rw [hw, Ny119.out]; exact HP20.1); clear HP20; have n0_ := Aside0.mk (hp_); have n1_ := Aside0.mk ((by rw [hw]; exact below_set (HB.out) GB19.out : Below w.heap.size w w21)); clear HO_5; clear HB; have HO_5 := n0_; have HB := n1_; clear n0_ n1_; clear hg hw hp_))
                          (try simp only [← hl5_3])
                          go_roundg k3
                          case measure => have := HJ2.out; have := HJ4.out; have := HK3.out; omega
                          case rel => exact ⟨(y119), (wrap64 (x17_3 + 1)), (by first | rfl | (simp; done) | (simp [*]; done)), H', ⟨by have := HJ2.out; have := HJ4.out; have := HK3.out; omega⟩, ⟨by (try simp only [hl5_3]); (with_reducible repeat (first | apply Kd.R_alloc | apply Kd.R_drewN | apply Kd.R_drew)); exact HO_5.out⟩, ⟨by repeat (first | (with_reducible first | exact HB.out | apply below_alloc | apply pw_below_drewN | apply below_drew1) | exact HB.out)⟩⟩
                        · rw [if_neg c18] at H
                          exact absurd H (by simp)
                      · rw [if_neg c17] at H
                        exact absurd H (by simp)
                    · rw [if_neg c14] at H
                      exact absurd H (by simp)
                  · rw [if_neg c12] at H
                    have c12b0 : decide (x17_3 < (y116.length : Int)) = false := decide_eq_false c12
                    (try (have c12b0hl5_3 := c12b0; rw [hl5_3] at c12b0hl5_3))
                    clear c12
                    obtain rfl := Option.some.inj H
                    go_wp2
                    go_ret
                    exact ⟨_, by first | rfl | (simp [errW_none, errW_some] <;> rfl) | (simp [*, errW_none, errW_some] <;> rfl), by (with_reducible repeat (first | apply Kd.R_alloc | apply Kd.R_drewN | apply Kd.R_drew)); exact HO_5.out, by repeat (first | (with_reducible first | exact HB.out | apply below_alloc | apply pw_below_drewN | apply below_drew1) | exact HB.out)⟩
            · rw [if_neg c8] at H
              exact absurd H (by simp)
          · rw [if_neg c7] at H
            exact absurd H (by simp)

end Go.Proofs.Ytkmdkmlgahfcpaa.M

namespace Go.Proofs.Ytkmdkmlgahfcpaa.M
open Go.RowKit Go.Proofs.YtkmdkmlgahfcpaaW.PrintWords Go.Proofs.YtkmdkmlgahfcpaaW.PrintLast Go.Proofs.YtkmdkmlgahfcpaaW.PrintMore
attribute [local go_sem] max2_int min2_int max_two min_two max_three min_three max_four min_four   -- for this text's walks alone
set_option linter.unusedVariables false
set_option linter.unusedSimpArgs false

/-! ### impl_mixed: function 35 -/
def impl_mixed.l0 : Nat → Int → List Int → Int → Int → Option (Int)
  | 0, _, _, _, _ => none
  | k + 1, x0, x7, x8, x9 => if x9 < x8 then (if 0 ≤ x9 then (if x9 < (x7.length : Int) then (impl_mixed.l0 k (IntKind.u64.wrap ((Go.bits .xor .u64 x0 (IntKind.u64.wrap (rd x7 x9))) * 1099511628211)) x7 x8 (wrap64 (x9 + 1))) else (none)) else (none)) else (some x0)
def impl_mixed.f (k : Nat) (a0 : Int) (l1 : List Int) : Option (Int) := impl_mixed.l0 k a0 l1 (l1.length : Int) 0
theorem impl_mixed.mono_l : ∀ k, (∀ y0 y1 y2 y3, LeO (impl_mixed.l0 k y0 y1 y2 y3) (impl_mixed.l0 (k + 1) y0 y1 y2 y3))
  | 0 => fun _ _ _ _ r h => by simp [impl_mixed.l0] at h
  | k + 1 => by
    have ih0 := impl_mixed.mono_l k
    · intro y0 y1 y2 y3
      unfold impl_mixed.l0
      repeat' first
      | (with_reducible exact ih0 _ _ _ _)
      | (with_reducible exact LeO.refl _)
      | (with_reducible exact LeO.none _)
      | (with_reducible refine LeO.ite ?_ ?_)
      | (with_reducible refine LeO.bind ?_ (fun _ => ?_))
      | exact ih0 _ _ _ _
      | exact LeO.none _
      | refine LeO.ite ?_ ?_
      | refine LeO.bind ?_ (fun _ => ?_)
theorem impl_mixed.mono : ∀ a0 a1 k, LeO (impl_mixed.f k a0 a1) (impl_mixed.f (k + 1) a0 a1) := by
  intro a0 a1 k
  have ih0 := impl_mixed.mono_l k
  unfold impl_mixed.f
  repeat' first
      | (with_reducible exact ih0 _ _ _ _)
      | (with_reducible exact LeO.refl _)
      | (with_reducible exact LeO.none _)
      | (with_reducible refine LeO.ite ?_ ?_)
      | (with_reducible refine LeO.bind ?_ (fun _ => ?_))
      | exact ih0 _ _ _ _
      | exact LeO.none _
      | refine LeO.ite ?_ ?_
      | refine LeO.bind ?_ (fun _ => ?_)
set_option maxHeartbeats 8000000 in
set_option maxRecDepth 100000 in
theorem impl_mixed.calls (k : Nat) (a0 : Int) (A1 : Option Addr) (c1 : Nat) (l1 : List Int) (r : Int) (w : World) (hr1 : Kd.C (Kd.int .u8) w A1 l1.length l1) (hc1 : l1.length ≤ c1) (h : impl_mixed.f k a0 l1 = some r) :
    Calls Try.prog 35 #[.int .u64 a0, .slice A1 l1.length c1] w fun e w' => e = .returned (.int .u64 r) ∧ Drawn0 w w' := by
  have HR1 := Aside0.mk hr1
  have HC1 := Aside0.mk hc1
  clear hr1 hc1
  have H : (impl_mixed.l0 k a0 l1 (l1.length : Int) 0) = some r := h
  clear h
  have H' := Aside0.mk H
  clear H
  go_enter Try.func35, Try.ntmps35
  go_wp2
  go_loopg [0, 9] k (fun kq v0 v9 w' => ∃ (x0_1 : Int) (x9_1 : Int), v0 = .int .u64 x0_1 ∧ v9 = .int .i64 x9_1 ∧ Aside0 (impl_mixed.l0 kq x0_1 l1 (l1.length : Int) x9_1 = some r) ∧ Aside0 (kq ≤ k) ∧ Drawn0 w w')
  case atStart => exact ⟨(a0), (0), (by first | rfl | (simp; done) | (simp [*]; done)), (by first | rfl | (simp; done) | (simp [*]; done)), H', ⟨Nat.le_refl _⟩, by repeat (first | exact Drawn0.refl _ | apply Drawn0.step)⟩
  case round =>
    clear H'
    try clear c1
    try clear p2
    obtain ⟨x0_1, x9_1, rfl, rfl, HA, HK1, ⟨m1, rfl⟩⟩ := hrel
    cases gk with
    | zero => exact absurd HA.out (by simp [impl_mixed.l0])
    | succ k1 =>
      have H := HA.out
      clear HA
      simp only [impl_mixed.l0] at H
      by_cases c3 : x9_1 < (l1.length : Int)
      · rw [if_pos c3] at H
        have c3b0 : decide (x9_1 < (l1.length : Int)) = true := decide_eq_true c3
        clear c3
        by_cases c4 : 0 ≤ x9_1
        · rw [if_pos c4] at H
          have c4b0 : decide (0 ≤ x9_1) = true := decide_eq_true c4
          clear c4
          by_cases c5 : x9_1 < (l1.length : Int)
          · rw [if_pos c5] at H
            have c5b0 : decide (x9_1 < (l1.length : Int)) = true := decide_eq_true c5
            clear c5
            have H' := Aside0.mk H
            clear H
            have p120 : 0 ≤ (x9_1 : Int) := of_decide_eq_true (by first | (with_reducible assumption) | assumption)
            have q120 : x9_1 < (l1.length : Int) := of_decide_eq_true (by first | (with_reducible assumption) | assumption)
            obtain ⟨ad120, e120, hx120_0⟩ := Kd.at_int HR1.out x9_1 p120 q120
            cases e120
            replace p120 := eq_true p120
            replace q120 := eq_true q120
            go_wp2
            go_roundg k1
            case measure => have := HK1.out; omega
            case rel => exact ⟨(IntKind.u64.wrap ((Go.bits .xor .u64 x0_1 (IntKind.u64.wrap (rd l1 x9_1))) * 1099511628211)), (wrap64 (x9_1 + 1)), (by first | rfl | (simp; done) | (simp [*]; done)), (by first | rfl | (simp; done) | (simp [*]; done)), H', ⟨by have := HK1.out; omega⟩, by repeat (first | exact Drawn0.refl _ | apply Drawn0.step)⟩
          · rw [if_neg c5] at H
            exact absurd H (by simp)
        · rw [if_neg c4] at H
          exact absurd H (by simp)
      · rw [if_neg c3] at H
        have c3b0 : decide (x9_1 < (l1.length : Int)) = false := decide_eq_false c3
        clear c3
        obtain rfl := Option.some.inj H
        go_wp2
        go_ret
        exact ⟨by first | rfl | (simp; done) | (simp [*]; done), by repeat (first | exact Drawn0.refl _ | apply Drawn0.step)⟩

end Go.Proofs.Ytkmdkmlgahfcpaa.M

namespace Go.Proofs.Ytkmdkmlgahfcpaa.M
open Go.RowKit Go.Proofs.YtkmdkmlgahfcpaaW.PrintWords Go.Proofs.YtkmdkmlgahfcpaaW.PrintLast Go.Proofs.YtkmdkmlgahfcpaaW.PrintMore
attribute [local go_sem] max2_int min2_int max_two min_two max_three min_three max_four min_four   -- for this text's walks alone
set_option linter.unusedVariables false
set_option linter.unusedSimpArgs false

/-! ### impl_toy_HashChildren: function 21 -/
def impl_toy_HashChildren.f (k : Nat) (a0_0 : Int) (a0_1 : Int) (a0_2 : Int) (a0_3 : Int) (a0_4 : Int) (a0_5 : Int) (l1 : List Int) (l2 : List Int) : Option (List Int) := if a0_0 = 1 then ((impl_mixed.f k a0_5 l1).bind fun t122 => ((impl_mixed.f k t122 (([255] : List Int))).bind fun t126 => ((impl_mixed.f k t126 l2).bind fun t127 => ((impl_word.f k t127 a0_2).bind fun t128 => (some t128))))) else ((some (([1] : List Int) : List Int)).bind fun y131 => ((impl_word.f k (IntKind.u64.wrap ((l1.length : Int))) 8).bind fun t134 => (if y131.length + t134.length < 140737488355328 then ((some (y131 ++ t134 : List Int)).bind fun y137 => (if y137.length + l1.length < 140737488355328 then ((some (y137 ++ l1 : List Int)).bind fun y140 => (if y140.length + l2.length < 140737488355328 then (some (y140 ++ l2)) else (none))) else (none))) else (none))))
theorem impl_toy_HashChildren.mono : ∀ a0 a1 a2 a3 a4 a5 a6 a7 k, LeO (impl_toy_HashChildren.f k a0 a1 a2 a3 a4 a5 a6 a7) (impl_toy_HashChildren.f (k + 1) a0 a1 a2 a3 a4 a5 a6 a7) := by
  intro a0 a1 a2 a3 a4 a5 a6 a7 k
  unfold impl_toy_HashChildren.f
  repeat' first
      | (with_reducible exact impl_mixed.mono _ _ _)
      | (with_reducible exact impl_word.mono _ _ _)
      | (with_reducible exact LeO.refl _)
      | (with_reducible exact LeO.none _)
      | (with_reducible refine LeO.ite ?_ ?_)
      | (with_reducible refine LeO.bind ?_ (fun _ => ?_))
      | exact impl_mixed.mono _ _ _
      | exact impl_word.mono _ _ _
      | exact LeO.none _
      | refine LeO.ite ?_ ?_
      | refine LeO.bind ?_ (fun _ => ?_)
def impl_toy_HashChildren.T2 : Bool × List (List Nat × List Nat) := (true, [([], []), ([0], [0]), ([1], [1]), ([], []), ([2, 3], [2, 3]), ([], []), ([4, 5, 4], [4, 5]), ([], []), ([6, 7, 6], [6, 7]), ([], []), ([9], [9]), ([10], [10]), ([8, 11, 8], [8, 11]), ([12, 12, 0, 1, 2, 3, 4, 5, 6, 7, 8, 9, 10, 11, 12], [12])])
def impl_toy_HashChildren.B2 : List Nat := [0, 1, 3, 0, 15, 0, 63, 0, 255, 0, 512, 1536, 4095, 8191]
theorem impl_toy_HashChildren.tab2 : rtab .any (opsOf Try.f21 2) = impl_toy_HashChildren.T2 := by kernel_rfl
theorem impl_toy_HashChildren.bits2 : waitsOk impl_toy_HashChildren.T2.2 impl_toy_HashChildren.B2 = true := by kernel_rfl
set_option maxHeartbeats 8000000 in
set_option maxRecDepth 100000 in
theorem impl_toy_HashChildren.calls (k : Nat) (a0_0 : Int) (a0_1 : Int) (a0_2 : Int) (a0_3 : Int) (a0_4 : Int) (a0_5 : Int) (A1 : Option Addr) (c1 : Nat) (l1 : List Int) (A2 : Option Addr) (c2 : Nat) (l2 : List Int) (r : List Int) (w : World) (hr1 : Kd.C (Kd.int .u8) w A1 l1.length l1) (hc1 : l1.length ≤ c1) (hr2 : Kd.C (Kd.int .u8) w A2 l2.length l2) (hc2 : l2.length ≤ c2) (h : impl_toy_HashChildren.f k a0_0 a0_1 a0_2 a0_3 a0_4 a0_5 l1 l2 = some r) :
    Calls Try.prog 21 #[.agg #[.int .i64 a0_0, .int .i64 a0_1, .int .i64 a0_2, .int .u64 a0_3, .int .u64 a0_4, .int .u64 a0_5], .slice A1 l1.length c1, .slice A2 l2.length c2] w fun e w' => ∃ v0_ : Value, e = .returned (v0_) ∧ Kd.R (Kd.int .u8) 5 w' w.heap.size (fun _ => True) v0_ r ∧ Below w.heap.size w w' := by
  have hu52 := Try.underlying52
  have HR1 := Aside0.mk hr1
  have HC1 := Aside0.mk hc1
  clear hr1 hc1
  have HR2 := Aside0.mk hr2
  have HC2 := Aside0.mk hc2
  clear hr2 hc2
  have HB := Aside0.mk (Below.refl w.heap.size w)
  have H : (if a0_0 = 1 then ((impl_mixed.f k a0_5 l1).bind fun t122 => ((impl_mixed.f k t122 (([255] : List Int))).bind fun t126 => ((impl_mixed.f k t126 l2).bind fun t127 => ((impl_word.f k t127 a0_2).bind fun t128 => (some t128))))) else ((some (([1] : List Int) : List Int)).bind fun y131 => ((impl_word.f k (IntKind.u64.wrap ((l1.length : Int))) 8).bind fun t134 => (if y131.length + t134.length < 140737488355328 then ((some (y131 ++ t134 : List Int)).bind fun y137 => (if y137.length + l1.length < 140737488355328 then ((some (y137 ++ l1 : List Int)).bind fun y140 => (if y140.length + l2.length < 140737488355328 then (some (y140 ++ l2)) else (none))) else (none))) else (none))))) = some r := h
  clear h
  by_cases c4 : a0_0 = 1
  · rw [if_pos c4] at H
    have c4b0 : (a0_0 == 1) = true := beq_iff_eq.mpr c4
    have c4b1 : (a0_0 != 1) = false := bne_eq_false_iff_eq.mpr c4
    clear c4
    replace H := Option.bind_eq_some_iff.mp H
    obtain ⟨t122, A50, H⟩ := H
    replace H : ((impl_mixed.f k t122 (([255] : List Int))).bind fun t126 => ((impl_mixed.f k t126 l2).bind fun t127 => ((impl_word.f k t127 a0_2).bind fun t128 => (some t128)))) = some r := H
    have A5 := Aside0.mk A50
    clear A50
    obtain ⟨y123, hy123⟩ : ∃ y_ : List Int, y_ = (([255] : List Int)) := ⟨_, rfl⟩
    replace H : ((impl_mixed.f k t122 y123).bind fun t126 => ((impl_mixed.f k t126 l2).bind fun t127 => ((impl_word.f k t127 a0_2).bind fun t128 => (some t128)))) = some r := by first | (rw [hy123]; with_reducible exact H) | (have H2_ := (Option.bind_some _ _).symm.trans H; rw [hy123]; with_reducible exact H2_) | (have H2_ := (Option.bind_some _ _).symm.trans H; with_reducible exact H2_) | with_reducible exact H | (rw [hy123]; exact H) | exact H
    have Ny123 := Aside0.mk hy123
    clear hy123
    replace H := Option.bind_eq_some_iff.mp H
    obtain ⟨t126, A60, H⟩ := H
    replace H : ((impl_mixed.f k t126 l2).bind fun t127 => ((impl_word.f k t127 a0_2).bind fun t128 => (some t128))) = some r := H
    have A6 := Aside0.mk A60
    clear A60
    replace H := Option.bind_eq_some_iff.mp H
    obtain ⟨t127, A70, H⟩ := H
    replace H : ((impl_word.f k t127 a0_2).bind fun t128 => (some t128)) = some r := H
    have A7 := Aside0.mk A70
    clear A70
    replace H := Option.bind_eq_some_iff.mp H
    obtain ⟨t128, A80, H⟩ := H
    replace H : (some t128) = some r := H
    have A8 := Aside0.mk A80
    clear A80
    obtain rfl := Option.some.inj H
    go_enter Try.func21, Try.ntmps21
    try go_wp2_with (first | ((with_reducible refine gate_dst (N := 3) rfl ?_); refine box_event ?hg (N := 3) ?hd (cs := #[.int .i64 a0_0, .int .i64 a0_1, .int .i64 a0_2, .int .u64 a0_3, .int .u64 a0_4, .int .u64 a0_5]) (t := 52) ?hr ?_; (case hd => rfl); (case hg => rfl); (case hr => first | (go_simp; done) | (go_simp; rfl)); intro gb121 hg w9 hbox hb; have n0_ := Aside0.mk (below_step (by repeat (first | (with_reducible first | exact HB.out | apply below_alloc | apply pw_below_drewN | apply below_drew1) | exact HB.out)) hb); have n1_ := Aside0.mk (hbox); have n2_ := Aside0.mk ((by rw [hg]; exact (below_size (by repeat (first | (with_reducible first | exact HB.out | apply below_alloc | apply pw_below_drewN | apply below_drew1) | exact HB.out))) : w.heap.size ≤ gb121)); have n3_ := Aside0.mk ((by rw [hg]; exact (below_size (by repeat (first | (with_reducible first | exact HB.out | apply below_alloc | apply pw_below_drewN | apply below_drew1) | exact HB.out))) : w.heap.size ≤ gb121)); clear HB; have HB := n0_; have BK121 := n1_; have GW121 := n2_; have GE121 := n3_; clear n0_ n1_ n2_ n3_; clear hb hbox hg; have hcz10_0 : w9.cell? ⟨gb121, 0, none⟩ = some (.int .i64 a0_0) := (blk_cell BK121.out 0).trans rfl; have hcz10_1 : w9.cell? ⟨gb121, 1, none⟩ = some (.int .i64 a0_1) := (blk_cell BK121.out 1).trans rfl; have hcz10_2 : w9.cell? ⟨gb121, 2, none⟩ = some (.int .i64 a0_2) := (blk_cell BK121.out 2).trans rfl; have hcz10_3 : w9.cell? ⟨gb121, 3, none⟩ = some (.int .u64 a0_3) := (blk_cell BK121.out 3).trans rfl; have hcz10_4 : w9.cell? ⟨gb121, 4, none⟩ = some (.int .u64 a0_4) := (blk_cell BK121.out 4).trans rfl; have hcz10_5 : w9.cell? ⟨gb121, 5, none⟩ = some (.int .u64 a0_5) := (blk_cell BK121.out 5).trans rfl; have hfz10_0 := blk_frozen BK121.out 0; have hfz10_1 := blk_frozen BK121.out 1; have hfz10_2 := blk_frozen BK121.out 2; have hfz10_3 := blk_frozen BK121.out 3; have hfz10_4 := blk_frozen BK121.out 4; have hfz10_5 := blk_frozen BK121.out 5))
    have n0_ := Aside0.mk (blk_drew BK121.out)
    have n1_ := Aside0.mk (below_drew1 HB.out)
    clear BK121
    clear HB
    have BK121 := n0_
    have HB := n1_
    clear n0_ n1_
    refine start_ (n := 14) (S := fun w' => w'.cell? ⟨gb121, 0, none⟩ = some (.int .i64 a0_0) ∧ w'.cell? ⟨gb121, 1, none⟩ = some (.int .i64 a0_1) ∧ w'.cell? ⟨gb121, 2, none⟩ = some (.int .i64 a0_2) ∧ w'.cell? ⟨gb121, 3, none⟩ = some (.int .u64 a0_3) ∧ w'.cell? ⟨gb121, 4, none⟩ = some (.int .u64 a0_4) ∧ w'.cell? ⟨gb121, 5, none⟩ = some (.int .u64 a0_5)) (ds := []) #[false, false, false, false, false, false, false, false, false, false, false, false, false, false] (by kernel_rfl) rfl rfl ⟨(blk_cell BK121.out 0).trans rfl, (blk_cell BK121.out 1).trans rfl, (blk_cell BK121.out 2).trans rfl, (blk_cell BK121.out 3).trans rfl, (blk_cell BK121.out 4).trans rfl, (blk_cell BK121.out 5).trans rfl⟩ (fun hHeld => ?_); refine with_tabW impl_toy_HashChildren.tab2 impl_toy_HashChildren.bits2 (fun HT_ HW_ => ?_)
    generalize w9.drew = w11 at BK121 HB hHeld ⊢
    refine pure_ (i := 0) (N := some 12) (v := ?_) (a' := ?_) #[true, false, false, false, false, false, false, false, false, false, false, false, false, false] rfl rfl (any_of HT_.out (by kernel_rfl)) (fun _ _ _ h => h) (Or.inl ⟨by rfl, ?_⟩) ?_ ?_
    rotate_left
    · intro w'
      go_simp
      with_reducible rfl
    rotate_left
    · simp only [Act.put, List.setIfInBounds_toArray, List.set_cons_zero, List.set_cons_succ, i64_w, i32_w]
      rfl
    refine pure_ (i := 1) (N := some 13) (v := ?_) (a' := ?_) #[true, true, false, false, false, false, false, false, false, false, false, false, false, false] rfl rfl (any_of HT_.out (by kernel_rfl)) (fun _ _ _ h => h) (Or.inl ⟨by rfl, ?_⟩) ?_ ?_
    rotate_left
    · intro w'
      go_simp
      with_reducible rfl
    rotate_left
    · simp only [Act.put, List.setIfInBounds_toArray, List.set_cons_zero, List.set_cons_succ, i64_w, i32_w]
      rfl
    refine pure_ (i := 3) (N := some 15) (v := ?_) (a' := ?_) #[true, true, false, true, false, false, false, false, false, false, false, false, false, false] rfl rfl (any_of HT_.out (by kernel_rfl)) (fun _ _ _ h => h) (Or.inl ⟨by rfl, ?_⟩) ?_ ?_
    rotate_left
    · intro w'
      go_simp
      with_reducible rfl
    rotate_left
    · simp only [Act.put, List.setIfInBounds_toArray, List.set_cons_zero, List.set_cons_succ, i64_w, i32_w]
      rfl
    refine pure_ (i := 7) (N := some 19) (v := ?_) (a' := ?_) #[true, true, false, true, false, false, false, true, false, false, false, false, false, false] rfl rfl (any_of HT_.out (by kernel_rfl)) (fun _ _ _ h => h) (Or.inl ⟨by rfl, ?_⟩) ?_ ?_
    rotate_left
    · intro w'
      go_simp
      with_reducible rfl
    rotate_left
    · simp only [Act.put, List.setIfInBounds_toArray, List.set_cons_zero, List.set_cons_succ, i64_w, i32_w]
      rfl
    refine pure_ (i := 9) (N := some 21) (v := ?_) (a' := ?_) #[true, true, false, true, false, false, false, true, false, true, false, false, false, false] rfl rfl (any_of HT_.out (by kernel_rfl)) (fun _ _ _ h => h) (Or.inl ⟨by rfl, ?_⟩) ?_ ?_
    rotate_left
    · intro w'
      go_simp
      with_reducible rfl
    rotate_left
    · simp only [Act.put, List.setIfInBounds_toArray, List.set_cons_zero, List.set_cons_succ, i64_w, i32_w]
      rfl
    refine pure_ (i := 10) (N := some 22) (v := ?_) (a' := ?_) #[true, true, false, true, false, false, false, true, false, true, true, false, false, false] rfl rfl (any_of HT_.out (by kernel_rfl)) (fun _ _ _ h => h) (Or.inl ⟨by rfl, ?_⟩) ?_ ?_
    rotate_left
    · intro w'
      go_simp
      with_reducible rfl
    rotate_left
    · simp only [Act.put, List.setIfInBounds_toArray, List.set_cons_zero, List.set_cons_succ, i64_w, i32_w]
      rfl
    refine take_ (i := 2) (N := some 14) (v := ?_) (a' := ?_) #[true, true, true, true, false, false, false, true, false, true, true, false, false, false] rfl rfl (take_ofW HT_.out HW_.out (by kernel_rfl)) (fun _ _ _ h => h) (Or.inl ⟨by rfl, ?_⟩) hHeld ?_ ?_
    rotate_left
    · rintro w' ⟨s0, s1, s2, s3, s4, s5⟩
      go_simp
      with_reducible rfl
    rotate_left
    · simp only [Act.put, List.setIfInBounds_toArray, List.set_cons_zero, List.set_cons_succ, i64_w, i32_w]
      rfl
    refine take_ (i := 11) (N := some 23) (v := ?_) (a' := ?_) #[true, true, true, true, false, false, false, true, false, true, true, true, false, false] rfl rfl (take_ofW HT_.out HW_.out (by kernel_rfl)) (fun _ _ _ h => h) (Or.inl ⟨by rfl, ?_⟩) hHeld ?_ ?_
    rotate_left
    · rintro w' ⟨s0, s1, s2, s3, s4, s5⟩
      go_simp
      with_reducible rfl
    rotate_left
    · simp only [Act.put, List.setIfInBounds_toArray, List.set_cons_zero, List.set_cons_succ, i64_w, i32_w]
      rfl
    refine join_ (σ := Value) 4 #[true, true, true, true, true, true, false, true, false, true, true, true, false, false] (fun s_ => [(16, .int .u64 t122), (17, s_)]) (fun s_ w' => (w'.cell? ⟨gb121, 0, none⟩ = some (.int .i64 a0_0) ∧ w'.cell? ⟨gb121, 1, none⟩ = some (.int .i64 a0_1) ∧ w'.cell? ⟨gb121, 2, none⟩ = some (.int .i64 a0_2) ∧ w'.cell? ⟨gb121, 3, none⟩ = some (.int .u64 a0_3) ∧ w'.cell? ⟨gb121, 4, none⟩ = some (.int .u64 a0_4) ∧ w'.cell? ⟨gb121, 5, none⟩ = some (.int .u64 a0_5)) ∧ (Kd.R (Kd.int .u8) 5 w' w.heap.size (fun _ => True) s_ y123) ∧ (w'.heap[gb121]? = some (.cells #[.int .i64 a0_0, .int .i64 a0_1, .int .i64 a0_2, .int .u64 a0_3, .int .u64 a0_4, .int .u64 a0_5] 52 (0, 0))) ∧ (Below w.heap.size w w')) ?_ ?_
    rotate_left
    · intro hCont
      refine two_ (i := 4) (j := 5) (Ni := some 16) (Nj := some 17) #[true, true, true, true, true, false, false, true, false, true, true, true, false, false] #[true, true, true, true, false, true, false, true, false, true, true, true, false, false] rfl rfl rfl rfl (two_of HT_.out (by kernel_rfl)) (by decide) (by decide) (fun K hK => ?_) (fun K hK => ?_)
      · skip
        refine goes_ Try.func35 (by kernel_rfl) rfl #[.int .u64 a0_5, .slice A1 l1.length c1] (by rfl) rfl rfl (by (try simp only [List.map_toArray, List.map_cons, List.map_nil]); first | done | rfl | (simp only [List.length_drop, List.length_take]; rfl)) ?_
        with_reducible refine (impl_mixed.calls k a0_5 _ _ l1 t122 _ ?side1 ?side2 A5.out).mono ?_
        (case side1 => repeat (first | exact (Kd.C_below HR1.out HB.out) | (with_reducible refine Kd.C_alloc ?_ _) | (with_reducible refine Kd.C_drewN ?_ _) | (with_reducible refine Kd.C_drew ?_)))
        (case side2 => exact HC1.out)
        rintro e w' ⟨rfl, ⟨nd, rfl⟩⟩
        refine ⟨_, rfl, ?_⟩
        refine hK.out _ _ ⟨(blk_cell BK121.out 0).trans rfl, (blk_cell BK121.out 1).trans rfl, (blk_cell BK121.out 2).trans rfl, (blk_cell BK121.out 3).trans rfl, (blk_cell BK121.out 4).trans rfl, (blk_cell BK121.out 5).trans rfl⟩ (fun hHeld => ?_)
        clear hK K
        refine norm_ (a' := ?_) ?_ ?_
        rotate_left
        · show Act.put _ (some 16) _ = _
          simp only [Act.put, List.setIfInBounds_toArray, List.set_cons_zero, List.set_cons_succ, i64_w, i32_w]
          rfl
        refine one_ (i := 5) (N := some 17) #[true, true, true, true, true, true, false, true, false, true, true, true, false, false] rfl rfl (one_of HT_.out (by kernel_rfl)) (by decide) (fun K hK => ?_)
        refine Kd.R_lit_step (Kd.int .u8) _ 5 ?hg (N := 17) ?hd (xs := ([255] : List Int)) (inner := [.int .u8 255]) (ok := fun _ => True) (okp := fun _ => True) ?hr ?hp (fun _ hk => hk) trivial (Below.refl _ _) (Nat.le_refl _) (by simp) ?_; (case hd => rfl); (case hg => rfl); (case hr => first | (go_simp; done) | (go_simp; rfl)); (case hp => exact (Reps.one (show Kd.M (Kd.int .u8) _ _ _ 255 [.int .u8 255] from rfl) (Reps.none _ _)))
        intro v124 w12 ho13 hb hg_ hnew_
        clear hg_ hnew_
        (first | rw [← Ny123.out] at ho13 | (simp only [Int.reduceToNat] at ho13; rw [← Ny123.out] at ho13))
        have n0_ := Aside0.mk (Kd.R_lower ho13 (below_size (by repeat (first | (with_reducible first | exact HB.out | apply below_alloc | apply pw_below_drewN | apply below_drew1 | refine below_set ?_ GE121.out) | exact HB.out))))
        have n1_ := Aside0.mk (blk_below (g := gb121) (o := .cells #[.int .i64 a0_0, .int .i64 a0_1, .int .i64 a0_2, .int .u64 a0_3, .int .u64 a0_4, .int .u64 a0_5] 52 (0, 0)) (by (with_reducible repeat (first | refine blk_drewN ?_ _ | refine blk_drew ?_ | refine blk_alloc ?_ _)); exact BK121.out) hb)
        have n2_ := Aside0.mk (below_step (by repeat (first | (with_reducible first | exact HB.out | apply below_alloc | apply pw_below_drewN | apply below_drew1 | refine below_set ?_ GE121.out) | exact HB.out)) hb)
        clear BK121
        clear HB
        have HO125 := n0_
        have BK121 := n1_
        have HB := n2_
        clear n0_ n1_ n2_
        clear hb ho13
        refine hK.out _ _ ⟨(blk_cell BK121.out 0).trans rfl, (blk_cell BK121.out 1).trans rfl, (blk_cell BK121.out 2).trans rfl, (blk_cell BK121.out 3).trans rfl, (blk_cell BK121.out 4).trans rfl, (blk_cell BK121.out 5).trans rfl⟩ (fun hHeld => ?_)
        clear hK K
        refine norm_ (a' := ?_) ?_ ?_
        rotate_left
        · show Act.put _ (some 17) _ = _
          simp only [Act.put, List.setIfInBounds_toArray, List.set_cons_zero, List.set_cons_succ, i64_w, i32_w]
          rfl
        exact norm_ (by simp only [putAll, Act.put, List.setIfInBounds_toArray, List.set_cons_zero, List.set_cons_succ]) (hCont (v124) _ ⟨hHeld, (by (with_reducible repeat (first | apply Kd.R_alloc | apply Kd.R_drewN | apply Kd.R_drew)); exact HO125.out), (by (with_reducible repeat (first | refine blk_drewN ?_ _ | refine blk_drew ?_ | refine blk_alloc ?_ _)); exact BK121.out), (by repeat (first | (with_reducible first | exact HB.out | apply below_alloc | apply pw_below_drewN | apply below_drew1 | refine below_set ?_ GE121.out) | exact HB.out))⟩)
      · skip
        refine Kd.R_lit_step (Kd.int .u8) _ 5 ?hg (N := 17) ?hd (xs := ([255] : List Int)) (inner := [.int .u8 255]) (ok := fun _ => True) (okp := fun _ => True) ?hr ?hp (fun _ hk => hk) trivial (Below.refl _ _) (Nat.le_refl _) (by simp) ?_; (case hd => rfl); (case hg => rfl); (case hr => first | (go_simp; done) | (go_simp; rfl)); (case hp => exact (Reps.one (show Kd.M (Kd.int .u8) _ _ _ 255 [.int .u8 255] from rfl) (Reps.none _ _)))
        intro v124 w12 ho13 hb hg_ hnew_
        clear hg_ hnew_
        (first | rw [← Ny123.out] at ho13 | (simp only [Int.reduceToNat] at ho13; rw [← Ny123.out] at ho13))
        have n0_ := Aside0.mk (Kd.R_lower ho13 (below_size (by repeat (first | (with_reducible first | exact HB.out | apply below_alloc | apply pw_below_drewN | apply below_drew1 | refine below_set ?_ GE121.out) | exact HB.out))))
        have n1_ := Aside0.mk (blk_below (g := gb121) (o := .cells #[.int .i64 a0_0, .int .i64 a0_1, .int .i64 a0_2, .int .u64 a0_3, .int .u64 a0_4, .int .u64 a0_5] 52 (0, 0)) (by (with_reducible repeat (first | refine blk_drewN ?_ _ | refine blk_drew ?_ | refine blk_alloc ?_ _)); exact BK121.out) hb)
        have n2_ := Aside0.mk (below_step (by repeat (first | (with_reducible first | exact HB.out | apply below_alloc | apply pw_below_drewN | apply below_drew1 | refine below_set ?_ GE121.out) | exact HB.out)) hb)
        clear BK121
        clear HB
        have HO125 := n0_
        have BK121 := n1_
        have HB := n2_
        clear n0_ n1_ n2_
        clear hb ho13
        refine hK.out _ _ ⟨(blk_cell BK121.out 0).trans rfl, (blk_cell BK121.out 1).trans rfl, (blk_cell BK121.out 2).trans rfl, (blk_cell BK121.out 3).trans rfl, (blk_cell BK121.out 4).trans rfl, (blk_cell BK121.out 5).trans rfl⟩ (fun hHeld => ?_)
        clear hK K
        refine norm_ (a' := ?_) ?_ ?_
        rotate_left
        · show Act.put _ (some 17) _ = _
          simp only [Act.put, List.setIfInBounds_toArray, List.set_cons_zero, List.set_cons_succ, i64_w, i32_w]
          rfl
        refine one_ (i := 4) (N := some 16) #[true, true, true, true, true, true, false, true, false, true, true, true, false, false] rfl rfl (one_of HT_.out (by kernel_rfl)) (by decide) (fun K hK => ?_)
        refine goes_ Try.func35 (by kernel_rfl) rfl #[.int .u64 a0_5, .slice A1 l1.length c1] (by rfl) rfl rfl (by (try simp only [List.map_toArray, List.map_cons, List.map_nil]); first | done | rfl | (simp only [List.length_drop, List.length_take]; rfl)) ?_
        with_reducible refine (impl_mixed.calls k a0_5 _ _ l1 t122 _ ?side1 ?side2 A5.out).mono ?_
        (case side1 => repeat (first | exact (Kd.C_below HR1.out HB.out) | (with_reducible refine Kd.C_alloc ?_ _) | (with_reducible refine Kd.C_drewN ?_ _) | (with_reducible refine Kd.C_drew ?_)))
        (case side2 => exact HC1.out)
        rintro e w' ⟨rfl, ⟨nd, rfl⟩⟩
        refine ⟨_, rfl, ?_⟩
        refine hK.out _ _ ⟨(blk_cell BK121.out 0).trans rfl, (blk_cell BK121.out 1).trans rfl, (blk_cell BK121.out 2).trans rfl, (blk_cell BK121.out 3).trans rfl, (blk_cell BK121.out 4).trans rfl, (blk_cell BK121.out 5).trans rfl⟩ (fun hHeld => ?_)
        clear hK K
        refine norm_ (a' := ?_) ?_ ?_
        rotate_left
        · show Act.put _ (some 16) _ = _
          simp only [Act.put, List.setIfInBounds_toArray, List.set_cons_zero, List.set_cons_succ, i64_w, i32_w]
          rfl
        exact norm_ (by simp only [putAll, Act.put, List.setIfInBounds_toArray, List.set_cons_zero, List.set_cons_succ]) (hCont (v124) _ ⟨hHeld, (by (with_reducible repeat (first | apply Kd.R_alloc | apply Kd.R_drewN | apply Kd.R_drew)); exact HO125.out), (by (with_reducible repeat (first | refine blk_drewN ?_ _ | refine blk_drew ?_ | refine blk_alloc ?_ _)); exact BK121.out), (by repeat (first | (with_reducible first | exact HB.out | apply below_alloc | apply pw_below_drewN | apply below_drew1 | refine below_set ?_ GE121.out) | exact HB.out))⟩)
    rintro v124 w14 ⟨hS_, h0_, h1_, h2_⟩
    have n0_ : Aside0 (Kd.R (Kd.int .u8) 5 w14 w.heap.size (fun _ => True) v124 y123) := ⟨h0_⟩
    have n1_ : Aside0 (w14.heap[gb121]? = some (.cells #[.int .i64 a0_0, .int .i64 a0_1, .int .i64 a0_2, .int .u64 a0_3, .int .u64 a0_4, .int .u64 a0_5] 52 (0, 0))) := ⟨h1_⟩
    have n2_ : Aside0 (Below w.heap.size w w14) := ⟨h2_⟩
    clear BK121
    clear HB
    clear h0_ h1_ h2_
    have HO125 := n0_
    have BK121 := n1_
    have HB := n2_
    clear n0_ n1_ n2_
    have hHeld : w14.cell? ⟨gb121, 0, none⟩ = some (.int .i64 a0_0) ∧ w14.cell? ⟨gb121, 1, none⟩ = some (.int .i64 a0_1) ∧ w14.cell? ⟨gb121, 2, none⟩ = some (.int .i64 a0_2) ∧ w14.cell? ⟨gb121, 3, none⟩ = some (.int .u64 a0_3) ∧ w14.cell? ⟨gb121, 4, none⟩ = some (.int .u64 a0_4) ∧ w14.cell? ⟨gb121, 5, none⟩ = some (.int .u64 a0_5) := hS_
    obtain ⟨Ao15, co15, eo15⟩ := Kd.R_slice HO125.out
    (first | subst eo15 | (injection eo15 with f1_ f2_ f3_; have f4_ := f1_.symm; have f5_ := f3_.symm; clear f1_ f2_ f3_; subst f4_; subst f5_))
    refine norm_ (a' := ?_) ?_ ?_
    rotate_left
    · simp only [putAll, Act.put, List.setIfInBounds_toArray, List.set_cons_zero, List.set_cons_succ]
      rfl
    refine one_ (i := 6) (N := some 18) #[true, true, true, true, true, true, true, true, false, true, true, true, false, false] rfl rfl (one_of HT_.out (by kernel_rfl)) (by decide) (fun K hK => ?_)
    refine goes_ Try.func35 (by kernel_rfl) rfl #[.int .u64 t122, .slice Ao15 y123.length co15] (by rfl) rfl rfl (by (try simp only [List.map_toArray, List.map_cons, List.map_nil]); first | done | rfl | (simp only [List.length_drop, List.length_take]; rfl)) ?_
    with_reducible refine (impl_mixed.calls k t122 _ _ y123 t126 _ ?side1 ?side2 A6.out).mono ?_
    (case side1 => repeat (first | exact (Kd.R_reads' HO125.out).2.2 | (with_reducible refine Kd.C_alloc ?_ _) | (with_reducible refine Kd.C_drewN ?_ _) | (with_reducible refine Kd.C_drew ?_)))
    (case side2 => exact (Kd.R_reads' HO125.out).2.1)
    rintro e w' ⟨rfl, ⟨nd, rfl⟩⟩
    refine ⟨_, rfl, ?_⟩
    refine hK.out _ _ ⟨(blk_cell BK121.out 0).trans rfl, (blk_cell BK121.out 1).trans rfl, (blk_cell BK121.out 2).trans rfl, (blk_cell BK121.out 3).trans rfl, (blk_cell BK121.out 4).trans rfl, (blk_cell BK121.out 5).trans rfl⟩ (fun hHeld => ?_)
    clear hK K
    refine norm_ (a' := ?_) ?_ ?_
    rotate_left
    · show Act.put _ (some 18) _ = _
      simp only [Act.put, List.setIfInBounds_toArray, List.set_cons_zero, List.set_cons_succ, i64_w, i32_w]
      rfl
    refine one_ (i := 8) (N := some 20) #[true, true, true, true, true, true, true, true, true, true, true, true, false, false] rfl rfl (one_of HT_.out (by kernel_rfl)) (by decide) (fun K hK => ?_)
    refine goes_ Try.func35 (by kernel_rfl) rfl #[.int .u64 t126, .slice A2 l2.length c2] (by rfl) rfl rfl (by (try simp only [List.map_toArray, List.map_cons, List.map_nil]); first | done | rfl | (simp only [List.length_drop, List.length_take]; rfl)) ?_
    with_reducible refine (impl_mixed.calls k t126 _ _ l2 t127 _ ?side1 ?side2 A7.out).mono ?_
    (case side1 => repeat (first | exact (Kd.C_below HR2.out (by repeat (first | (with_reducible first | exact HB.out | apply below_alloc | apply pw_below_drewN | apply below_drew1 | refine below_set ?_ GE121.out) | exact HB.out))) | (with_reducible refine Kd.C_alloc ?_ _) | (with_reducible refine Kd.C_drewN ?_ _) | (with_reducible refine Kd.C_drew ?_)))
    (case side2 => exact HC2.out)
    rintro e w' ⟨rfl, ⟨nd, rfl⟩⟩
    refine ⟨_, rfl, ?_⟩
    refine hK.out _ _ ⟨(blk_cell BK121.out 0).trans rfl, (blk_cell BK121.out 1).trans rfl, (blk_cell BK121.out 2).trans rfl, (blk_cell BK121.out 3).trans rfl, (blk_cell BK121.out 4).trans rfl, (blk_cell BK121.out 5).trans rfl⟩ (fun hHeld => ?_)
    clear hK K
    refine norm_ (a' := ?_) ?_ ?_
    rotate_left
    · show Act.put _ (some 20) _ = _
      simp only [Act.put, List.setIfInBounds_toArray, List.set_cons_zero, List.set_cons_succ, i64_w, i32_w]
      rfl
    refine one_ (i := 12) (N := some 24) #[true, true, true, true, true, true, true, true, true, true, true, true, true, false] rfl rfl (one_of HT_.out (by kernel_rfl)) (by decide) (fun K hK => ?_)
    refine goes_ Try.func34 (by kernel_rfl) rfl #[.int .u64 t127, .int .i64 a0_2] (by rfl) rfl rfl (by (try simp only [List.map_toArray, List.map_cons, List.map_nil]); first | done | rfl | (simp only [List.length_drop, List.length_take]; rfl)) ?_
    with_reducible refine (impl_word.calls k t127 a0_2 t128 _ A8.out).mono ?_
    rintro e w16 ⟨v129, rfl, ho0, hb⟩
    refine ⟨_, rfl, ?_⟩
    have n0_ := Aside0.mk (Kd.R_elder' (by (with_reducible repeat (first | apply Kd.R_alloc | apply Kd.R_drewN | apply Kd.R_drew)); exact HO125.out) (Kd.R_base ho0) hb)
    have n1_ := Aside0.mk (Kd.R_lower (Kd.R_new' ho0 (Kd.R_lt (by (with_reducible repeat (first | apply Kd.R_alloc | apply Kd.R_drewN | apply Kd.R_drew)); exact HO125.out))) (below_size (by repeat (first | (with_reducible first | exact HB.out | apply below_alloc | apply pw_below_drewN | apply below_drew1 | refine below_set ?_ GE121.out) | exact HB.out))))
    have n2_ := Aside0.mk (blk_below (g := gb121) (o := .cells #[.int .i64 a0_0, .int .i64 a0_1, .int .i64 a0_2, .int .u64 a0_3, .int .u64 a0_4, .int .u64 a0_5] 52 (0, 0)) (by (with_reducible repeat (first | refine blk_drewN ?_ _ | refine blk_drew ?_ | refine blk_alloc ?_ _)); exact BK121.out) hb)
    have n3_ := Aside0.mk (below_step (by repeat (first | (with_reducible first | exact HB.out | apply below_alloc | apply pw_below_drewN | apply below_drew1 | refine below_set ?_ GE121.out) | exact HB.out)) hb)
    clear HO125
    clear BK121
    clear HB
    have HO125 := n0_
    have HO130 := n1_
    have BK121 := n2_
    have HB := n3_
    clear n0_ n1_ n2_ n3_
    (try clear hb)
    (try clear hb2)
    (try clear hk)
    (try clear hi)
    (try clear ho0)
    refine hK.out _ _ ⟨(blk_cell BK121.out 0).trans rfl, (blk_cell BK121.out 1).trans rfl, (blk_cell BK121.out 2).trans rfl, (blk_cell BK121.out 3).trans rfl, (blk_cell BK121.out 4).trans rfl, (blk_cell BK121.out 5).trans rfl⟩ (fun hHeld => ?_)
    clear hK K
    refine norm_ (a' := ?_) ?_ ?_
    rotate_left
    · show Act.put _ (some 24) _ = _
      simp only [Act.put, List.setIfInBounds_toArray, List.set_cons_zero, List.set_cons_succ, i64_w, i32_w]
      rfl
    refine pure_ (i := 13) (N := some 6) (v := ?_) (a' := ?_) #[true, true, true, true, true, true, true, true, true, true, true, true, true, true] rfl rfl (any_of HT_.out (by kernel_rfl)) (fun _ _ _ h => h) (Or.inl ⟨by rfl, ?_⟩) ?_ ?_
    rotate_left
    · intro w'
      go_simp
      with_reducible rfl
    rotate_left
    · simp only [Act.put, List.setIfInBounds_toArray, List.set_cons_zero, List.set_cons_succ, i64_w, i32_w]
      rfl
    refine done_ (done_of HT_.out (by kernel_rfl)) ?_
    try go_wp2
    go_ret
    exact ⟨_, by first | rfl | (simp [errW_none, errW_some] <;> rfl) | (simp [*, errW_none, errW_some] <;> rfl), by (with_reducible repeat (first | apply Kd.R_alloc | apply Kd.R_drewN | apply Kd.R_drew)); exact Kd.R_mono HO130.out (fun _ hk => trivial), by repeat (first | (with_reducible first | exact HB.out | apply below_alloc | apply pw_below_drewN | apply below_drew1 | refine below_set ?_ GE121.out) | exact HB.out)⟩
  · rw [if_neg c4] at H
    have c4b0 : (a0_0 == 1) = false := beq_eq_false_iff_ne.mpr c4
    have c4b1 : (a0_0 != 1) = true := bne_iff_ne.mpr c4
    obtain ⟨y131, hy131⟩ : ∃ y_ : List Int, y_ = (([1] : List Int)) := ⟨_, rfl⟩
    replace H : ((impl_word.f k (IntKind.u64.wrap ((l1.length : Int))) 8).bind fun t134 => (if y131.length + t134.length < 140737488355328 then ((some (y131 ++ t134 : List Int)).bind fun y137 => (if y137.length + l1.length < 140737488355328 then ((some (y137 ++ l1 : List Int)).bind fun y140 => (if y140.length + l2.length < 140737488355328 then (some (y140 ++ l2)) else (none))) else (none))) else (none))) = some r := by first | (rw [hy131]; with_reducible exact H) | (have H2_ := (Option.bind_some _ _).symm.trans H; rw [hy131]; with_reducible exact H2_) | (have H2_ := (Option.bind_some _ _).symm.trans H; with_reducible exact H2_) | with_reducible exact H | (rw [hy131]; exact H) | exact H
    have Ny131 := Aside0.mk hy131
    clear hy131
    replace H := Option.bind_eq_some_iff.mp H
    obtain ⟨t134, A170, H⟩ := H
    replace H : (if y131.length + t134.length < 140737488355328 then ((some (y131 ++ t134 : List Int)).bind fun y137 => (if y137.length + l1.length < 140737488355328 then ((some (y137 ++ l1 : List Int)).bind fun y140 => (if y140.length + l2.length < 140737488355328 then (some (y140 ++ l2)) else (none))) else (none))) else (none)) = some r := H
    have A17 := Aside0.mk A170
    clear A170
    by_cases c18 : y131.length + t134.length < 140737488355328
    · rw [if_pos c18] at H
      have LMc18 := Aside0.mk c18
      clear c18
      obtain ⟨y137, hy137⟩ : ∃ y_ : List Int, y_ = (y131 ++ t134) := ⟨_, rfl⟩
      replace H : (if y137.length + l1.length < 140737488355328 then ((some (y137 ++ l1 : List Int)).bind fun y140 => (if y140.length + l2.length < 140737488355328 then (some (y140 ++ l2)) else (none))) else (none)) = some r := by first | (rw [hy137]; with_reducible exact H) | (have H2_ := (Option.bind_some _ _).symm.trans H; rw [hy137]; with_reducible exact H2_) | (have H2_ := (Option.bind_some _ _).symm.trans H; with_reducible exact H2_) | with_reducible exact H | (rw [hy137]; exact H) | exact H
      have Ny137 := Aside0.mk hy137
      clear hy137
      by_cases c19 : y137.length + l1.length < 140737488355328
      · rw [if_pos c19] at H
        have LMc19 := Aside0.mk c19
        clear c19
        obtain ⟨y140, hy140⟩ : ∃ y_ : List Int, y_ = (y137 ++ l1) := ⟨_, rfl⟩
        replace H : (if y140.length + l2.length < 140737488355328 then (some (y140 ++ l2)) else (none)) = some r := by first | (rw [hy140]; with_reducible exact H) | (have H2_ := (Option.bind_some _ _).symm.trans H; rw [hy140]; with_reducible exact H2_) | (have H2_ := (Option.bind_some _ _).symm.trans H; with_reducible exact H2_) | with_reducible exact H | (rw [hy140]; exact H) | exact H
        have Ny140 := Aside0.mk hy140
        clear hy140
        by_cases c20 : y140.length + l2.length < 140737488355328
        · rw [if_pos c20] at H
          have LMc20 := Aside0.mk c20
          clear c20
          obtain ⟨y143, hy143⟩ : ∃ y_ : List Int, y_ = (y140 ++ l2) := ⟨_, rfl⟩
          replace H : (some y143) = some r := by first | (rw [hy143]; with_reducible exact H) | (have H2_ := (Option.bind_some _ _).symm.trans H; rw [hy143]; with_reducible exact H2_) | (have H2_ := (Option.bind_some _ _).symm.trans H; with_reducible exact H2_) | with_reducible exact H | (rw [hy143]; exact H) | exact H
          have Ny143 := Aside0.mk hy143
          clear hy143
          obtain rfl := Option.some.inj H
          go_enter Try.func21, Try.ntmps21
          go_wp2_with (first | ((with_reducible refine gate_dst (N := 3) rfl ?_); refine box_event ?hg (N := 3) ?hd (cs := #[.int .i64 a0_0, .int .i64 a0_1, .int .i64 a0_2, .int .u64 a0_3, .int .u64 a0_4, .int .u64 a0_5]) (t := 52) ?hr ?_; (case hd => rfl); (case hg => rfl); (case hr => first | (go_simp; done) | (go_simp; rfl)); intro gb121 hg w21 hbox hb; have n0_ := Aside0.mk (below_step (by repeat (first | (with_reducible first | exact HB.out | apply below_alloc | apply pw_below_drewN | apply below_drew1) | exact HB.out)) hb); have n1_ := Aside0.mk (hbox); have n2_ := Aside0.mk ((by rw [hg]; exact (below_size (by repeat (first | (with_reducible first | exact HB.out | apply below_alloc | apply pw_below_drewN | apply below_drew1) | exact HB.out))) : w.heap.size ≤ gb121)); have n3_ := Aside0.mk ((by rw [hg]; exact (below_size (by repeat (first | (with_reducible first | exact HB.out | apply below_alloc | apply pw_below_drewN | apply below_drew1) | exact HB.out))) : w.heap.size ≤ gb121)); clear HB; have HB := n0_; have BK121 := n1_; have GW121 := n2_; have GE121 := n3_; clear n0_ n1_ n2_ n3_; clear hb hbox hg; have hcz22_0 : w21.cell? ⟨gb121, 0, none⟩ = some (.int .i64 a0_0) := (blk_cell BK121.out 0).trans rfl; have hcz22_1 : w21.cell? ⟨gb121, 1, none⟩ = some (.int .i64 a0_1) := (blk_cell BK121.out 1).trans rfl; have hcz22_2 : w21.cell? ⟨gb121, 2, none⟩ = some (.int .i64 a0_2) := (blk_cell BK121.out 2).trans rfl; have hcz22_3 : w21.cell? ⟨gb121, 3, none⟩ = some (.int .u64 a0_3) := (blk_cell BK121.out 3).trans rfl; have hcz22_4 : w21.cell? ⟨gb121, 4, none⟩ = some (.int .u64 a0_4) := (blk_cell BK121.out 4).trans rfl; have hcz22_5 : w21.cell? ⟨gb121, 5, none⟩ = some (.int .u64 a0_5) := (blk_cell BK121.out 5).trans rfl; have hfz22_0 := blk_frozen BK121.out 0; have hfz22_1 := blk_frozen BK121.out 1; have hfz22_2 := blk_frozen BK121.out 2; have hfz22_3 := blk_frozen BK121.out 3; have hfz22_4 := blk_frozen BK121.out 4; have hfz22_5 := blk_frozen BK121.out 5) | ((with_reducible refine gate_dst (N := 25) rfl ?_); refine Kd.R_lit (Kd.int .u8) _ 5 ?hg (N := 25) ?hd (xs := ([1] : List Int)) (inner := [.int .u8 1]) (ok := fun _ => True) (okp := fun _ => True) ?hr ?hp (fun _ hk => hk) trivial (Below.refl _ _) (Nat.le_refl _) (by simp) ?_; (case hd => rfl); (case hg => rfl); (case hr => first | (go_simp; done) | (go_simp; rfl)); (case hp => exact (Reps.one (show Kd.M (Kd.int .u8) _ _ _ 1 [.int .u8 1] from rfl) (Reps.none _ _))); intro v132 w23 ho24 hb hg_ hnew_; clear hg_ hnew_; (first | rw [← Ny131.out] at ho24 | (simp only [Int.reduceToNat] at ho24; rw [← Ny131.out] at ho24)); have n0_ := Aside0.mk (Kd.R_lower ho24 (below_size (by repeat (first | (with_reducible first | exact HB.out | apply below_alloc | apply pw_below_drewN | apply below_drew1 | refine below_set ?_ GE121.out) | exact HB.out)))); have n1_ := Aside0.mk (blk_below (g := gb121) (o := .cells #[.int .i64 a0_0, .int .i64 a0_1, .int .i64 a0_2, .int .u64 a0_3, .int .u64 a0_4, .int .u64 a0_5] 52 (0, 0)) (by (with_reducible repeat (first | refine blk_drewN ?_ _ | refine blk_drew ?_ | refine blk_alloc ?_ _)); exact BK121.out) hb); have n2_ := Aside0.mk (below_step (by repeat (first | (with_reducible first | exact HB.out | apply below_alloc | apply pw_below_drewN | apply below_drew1 | refine below_set ?_ GE121.out) | exact HB.out)) hb); clear BK121; clear HB; have HO133 := n0_; have BK121 := n1_; have HB := n2_; clear n0_ n1_ n2_; clear hb ho24) | ((with_reducible refine gate_callee (f := 34) rfl ?_); refine goesL_ (some 29) rfl rfl Try.func34 (by kernel_rfl) rfl #[.int .u64 (IntKind.u64.wrap ((l1.length : Int))), .int .i64 8] rfl (by (try simp only [List.map_toArray, List.map_cons, List.map_nil]); first | done | rfl | (simp only [List.length_drop, List.length_take]; rfl)) ?_; (with_reducible refine (impl_word.calls k (IntKind.u64.wrap ((l1.length : Int))) 8 t134 _ A17.out).mono ?_); rintro e w25 ⟨v135, rfl, ho0, hb⟩; refine ⟨_, rfl, ?_⟩; have n0_ := Aside0.mk (Kd.R_elder' (by (with_reducible repeat (first | apply Kd.R_alloc | apply Kd.R_drewN | apply Kd.R_drew)); exact HO133.out) (Kd.R_base ho0) hb); have n1_ := Aside0.mk (Kd.R_lower (Kd.R_new' ho0 (Kd.R_lt (by (with_reducible repeat (first | apply Kd.R_alloc | apply Kd.R_drewN | apply Kd.R_drew)); exact HO133.out))) (below_size (by repeat (first | (with_reducible first | exact HB.out | apply below_alloc | apply pw_below_drewN | apply below_drew1 | refine below_set ?_ GE121.out) | exact HB.out)))); have n2_ := Aside0.mk (blk_below (g := gb121) (o := .cells #[.int .i64 a0_0, .int .i64 a0_1, .int .i64 a0_2, .int .u64 a0_3, .int .u64 a0_4, .int .u64 a0_5] 52 (0, 0)) (by (with_reducible repeat (first | refine blk_drewN ?_ _ | refine blk_drew ?_ | refine blk_alloc ?_ _)); exact BK121.out) hb); have n3_ := Aside0.mk (below_step (by repeat (first | (with_reducible first | exact HB.out | apply below_alloc | apply pw_below_drewN | apply below_drew1 | refine below_set ?_ GE121.out) | exact HB.out)) hb); clear HO133; clear BK121; clear HB; have HO133 := n0_; have HO136 := n1_; have BK121 := n2_; have HB := n3_; clear n0_ n1_ n2_ n3_; (try clear hb); (try clear hb2); (try clear hk); (try clear hi); (try clear ho0); obtain ⟨Ao27, co27, eo27⟩ := Kd.R_slice HO136.out; subst eo27) | ((with_reducible refine gate_builtin (b := .append) (xs := #[.tmp 25, .tmp 29]) rfl ?_); at_builtin; refine Kd.R_append_rows (Kd.int .u8) (w0 := w) w.heap.size rfl (.tmp 25) (.tmp 29) 30 5 (.int .u8 0) 1 rfl Try.underlying30 info5 rfl (by decide) (by omega) v132 y131 t134 _ _ _ (fun k_ => some k_ ≠ (.slice Ao27 t134.length co27 : Value).ownBlock) (fun _ => False) rfl rfl ?aO ?aR (fun _ _ h => h) (fun _ h => h.elim) ?aF ?aB ?aS ?aL ?_; (case aR => repeat (first | exact (Kd.R_reads' HO136.out).2.2 | (with_reducible refine Kd.C_alloc ?_ _) | (with_reducible refine Kd.C_drewN ?_ _) | (with_reducible refine Kd.C_drew ?_))); (case aB => exact (by repeat (first | (with_reducible first | exact HB.out | apply below_alloc | apply pw_below_drewN | apply below_drew1 | refine below_set ?_ GE121.out) | exact HB.out))); (case aF => exact (fun k_ hk => Kd.fresh' (Kd.R_lt (by (with_reducible repeat (first | apply Kd.R_alloc | apply Kd.R_drewN | apply Kd.R_drew)); exact HO136.out)) k_ hk)); (case aO => exact (by (with_reducible repeat (first | apply Kd.R_alloc | apply Kd.R_drewN | apply Kd.R_drew)); exact Kd.R_mono HO133.out (fun _ hk => hk.2))); (case aS => exact (below_size (by repeat (first | (with_reducible first | exact HB.out | apply below_alloc | apply pw_below_drewN | apply below_drew1 | refine below_set ?_ GE121.out) | exact HB.out)))); (case aL => have := LMc18.out; omega); intro v138 w26 ho hb hg hat; rw [← Ny137.out] at ho; have n0_ := Aside0.mk (blk_grown (g := gb121) (o := .cells #[.int .i64 a0_0, .int .i64 a0_1, .int .i64 a0_2, .int .u64 a0_3, .int .u64 a0_4, .int .u64 a0_5] 52 (0, 0)) (by (with_reducible repeat (first | refine blk_drewN ?_ _ | refine blk_drew ?_ | refine blk_alloc ?_ _)); exact BK121.out) hg (Kd.R_ne HO133.out BK121.out (by decide))); have n1_ := Aside0.mk (Kd.R_after (ok := (fun _ => True)) (by (with_reducible repeat (first | apply Kd.R_alloc | apply Kd.R_drewN | apply Kd.R_drew)); exact HO136.out) hg hat); have n2_ := Aside0.mk (hb); have n3_ := Aside0.mk (ho); clear BK121; clear HO136; clear HB; clear HO133; have BK121 := n0_; have HO136 := n1_; have HB := n2_; have HO139 := n3_; clear n0_ n1_ n2_ n3_; clear ho hb hg hat) | ((with_reducible refine gate_builtin (b := .append) (xs := #[.tmp 31, .tmp 32]) rfl ?_); at_builtin; refine Kd.R_append_rows (Kd.int .u8) (w0 := w) w.heap.size rfl (.tmp 31) (.tmp 32) 30 5 (.int .u8 0) 1 rfl Try.underlying30 info5 rfl (by decide) (by omega) v138 y137 l1 _ _ _ (fun k_ => some k_ ≠ (.slice Ao27 t134.length co27 : Value).ownBlock) (fun _ => False) rfl rfl ?aO ?aR (fun _ _ h => h) (fun _ h => h.elim) ?aF ?aB ?aS ?aL ?_; (case aR => repeat (first | exact (Kd.C_below HR1.out HB.out) | (with_reducible refine Kd.C_alloc ?_ _) | (with_reducible refine Kd.C_drewN ?_ _) | (with_reducible refine Kd.C_drew ?_))); (case aB => exact (by repeat (first | (with_reducible first | exact HB.out | apply below_alloc | apply pw_below_drewN | apply below_drew1 | refine below_set ?_ GE121.out) | exact HB.out))); (case aF => exact (fun k_ hk => Kd.fresh' (Kd.R_lt (by (with_reducible repeat (first | apply Kd.R_alloc | apply Kd.R_drewN | apply Kd.R_drew)); exact HO136.out)) k_ hk)); (case aO => exact (by (with_reducible repeat (first | apply Kd.R_alloc | apply Kd.R_drewN | apply Kd.R_drew)); exact HO139.out)); (case aS => exact (below_size (by repeat (first | (with_reducible first | exact HB.out | apply below_alloc | apply pw_below_drewN | apply below_drew1 | refine below_set ?_ GE121.out) | exact HB.out)))); (case aL => have := LMc19.out; omega); intro v141 w28 ho hb hg hat; rw [← Ny140.out] at ho; have n0_ := Aside0.mk (blk_grown (g := gb121) (o := .cells #[.int .i64 a0_0, .int .i64 a0_1, .int .i64 a0_2, .int .u64 a0_3, .int .u64 a0_4, .int .u64 a0_5] 52 (0, 0)) (by (with_reducible repeat (first | refine blk_drewN ?_ _ | refine blk_drew ?_ | refine blk_alloc ?_ _)); exact BK121.out) hg (Kd.R_ne HO139.out BK121.out (by decide))); have n1_ := Aside0.mk (Kd.R_after (ok := (fun _ => True)) (by (with_reducible repeat (first | apply Kd.R_alloc | apply Kd.R_drewN | apply Kd.R_drew)); exact HO136.out) hg hat); have n2_ := Aside0.mk (hb); have n3_ := Aside0.mk (ho); clear BK121; clear HO136; clear HB; clear HO139; have BK121 := n0_; have HO136 := n1_; have HB := n2_; have HO142 := n3_; clear n0_ n1_ n2_ n3_; clear ho hb hg hat) | ((with_reducible refine gate_builtin (b := .append) (xs := #[.tmp 33, .tmp 34]) rfl ?_); at_builtin; refine Kd.R_append_rows (Kd.int .u8) (w0 := w) w.heap.size rfl (.tmp 33) (.tmp 34) 30 5 (.int .u8 0) 1 rfl Try.underlying30 info5 rfl (by decide) (by omega) v141 y140 l2 _ _ _ (fun k_ => some k_ ≠ (.slice Ao27 t134.length co27 : Value).ownBlock) (fun _ => False) rfl rfl ?aO ?aR (fun _ _ h => h) (fun _ h => h.elim) ?aF ?aB ?aS ?aL ?_; (case aR => repeat (first | exact (Kd.C_below HR2.out HB.out) | (with_reducible refine Kd.C_alloc ?_ _) | (with_reducible refine Kd.C_drewN ?_ _) | (with_reducible refine Kd.C_drew ?_))); (case aB => exact (by repeat (first | (with_reducible first | exact HB.out | apply below_alloc | apply pw_below_drewN | apply below_drew1 | refine below_set ?_ GE121.out) | exact HB.out))); (case aF => exact (fun k_ hk => Kd.fresh' (Kd.R_lt (by (with_reducible repeat (first | apply Kd.R_alloc | apply Kd.R_drewN | apply Kd.R_drew)); exact HO136.out)) k_ hk)); (case aO => exact (by (with_reducible repeat (first | apply Kd.R_alloc | apply Kd.R_drewN | apply Kd.R_drew)); exact HO142.out)); (case aS => exact (below_size (by repeat (first | (with_reducible first | exact HB.out | apply below_alloc | apply pw_below_drewN | apply below_drew1 | refine below_set ?_ GE121.out) | exact HB.out)))); (case aL => have := LMc20.out; omega); intro v144 w29 ho hb hg hat; rw [← Ny143.out] at ho; have n0_ := Aside0.mk (blk_grown (g := gb121) (o := .cells #[.int .i64 a0_0, .int .i64 a0_1, .int .i64 a0_2, .int .u64 a0_3, .int .u64 a0_4, .int .u64 a0_5] 52 (0, 0)) (by (with_reducible repeat (first | refine blk_drewN ?_ _ | refine blk_drew ?_ | refine blk_alloc ?_ _)); exact BK121.out) hg (Kd.R_ne HO142.out BK121.out (by decide))); have n1_ := Aside0.mk (Kd.R_after (ok := (fun _ => True)) (by (with_reducible repeat (first | apply Kd.R_alloc | apply Kd.R_drewN | apply Kd.R_drew)); exact HO136.out) hg hat); have n2_ := Aside0.mk (hb); have n3_ := Aside0.mk (ho); clear BK121; clear HO136; clear HB; clear HO142; have BK121 := n0_; have HO136 := n1_; have HB := n2_; have HO145 := n3_; clear n0_ n1_ n2_ n3_; clear ho hb hg hat))
          go_ret
          exact ⟨_, by first | rfl | (simp [errW_none, errW_some] <;> rfl) | (simp [*, errW_none, errW_some] <;> rfl), by (with_reducible repeat (first | apply Kd.R_alloc | apply Kd.R_drewN | apply Kd.R_drew)); exact Kd.R_mono HO145.out (fun _ hk => trivial), by repeat (first | (with_reducible first | exact HB.out | apply below_alloc | apply pw_below_drewN | apply below_drew1 | refine below_set ?_ GE121.out) | exact HB.out)⟩
        · rw [if_neg c20] at H
          exact absurd H (by simp)
      · rw [if_neg c19] at H
        exact absurd H (by simp)
    · rw [if_neg c18] at H
      exact absurd H (by simp)

end Go.Proofs.Ytkmdkmlgahfcpaa.M

namespace Go.Proofs.Ytkmdkmlgahfcpaa.M
open Go.RowKit Go.Proofs.YtkmdkmlgahfcpaaW.PrintWords Go.Proofs.YtkmdkmlgahfcpaaW.PrintLast Go.Proofs.YtkmdkmlgahfcpaaW.PrintMore
attribute [local go_sem] max2_int min2_int max_two min_two max_three min_three max_four min_four   -- for this text's walks alone
set_option linter.unusedVariables false
set_option linter.unusedSimpArgs false

/-! ### proof_chainInner: function 41 -/
def proof_chainInner.l0 : Nat → List Int → Int → List (List Int) → Int → Int → Int → Int → Int → Int → Int → Int → Option (List Int)
  | 0, _, _, _, _, _, _, _, _, _, _, _ => none
  | k + 1, x1, x3, x11, x12, x13, x9001000, x9001001, x9001002, x9001003, x9001004, x9001005 => if x13 < x12 then (if 0 ≤ x13 then (if x13 < (x11.length : Int) then (if 0 ≤ (IntKind.u64.wrap (x13)) then (if (Go.bits .and .u64 (shr .u64 x3 (IntKind.u64.wrap (x13))) 1) = 0 then ((impl_toy_HashChildren.f k x9001000 x9001001 x9001002 x9001003 x9001004 x9001005 x1 (rd_L1 x11 x13)).bind fun t147 => (proof_chainInner.l0 k t147 x3 x11 x12 (wrap64 (x13 + 1)) x9001000 x9001001 x9001002 x9001003 x9001004 x9001005)) else ((impl_toy_HashChildren.f k x9001000 x9001001 x9001002 x9001003 x9001004 x9001005 (rd_L1 x11 x13) x1).bind fun t150 => (proof_chainInner.l0 k t150 x3 x11 x12 (wrap64 (x13 + 1)) x9001000 x9001001 x9001002 x9001003 x9001004 x9001005))) else (none)) else (none)) else (none)) else (some x1)
def proof_chainInner.f (k : Nat) (a0_0 : Int) (a0_1 : Int) (a0_2 : Int) (a0_3 : Int) (a0_4 : Int) (a0_5 : Int) (l1 : List Int) (l2 : List (List Int)) (a3 : Int) : Option (List Int) := proof_chainInner.l0 k l1 a3 l2 (l2.length : Int) 0 a0_0 a0_1 a0_2 a0_3 a0_4 a0_5
theorem proof_chainInner.mono_l : ∀ k, (∀ y0 y1 y2 y3 y4 y5 y6 y7 y8 y9 y10, LeO (proof_chainInner.l0 k y0 y1 y2 y3 y4 y5 y6 y7 y8 y9 y10) (proof_chainInner.l0 (k + 1) y0 y1 y2 y3 y4 y5 y6 y7 y8 y9 y10))
  | 0 => fun _ _ _ _ _ _ _ _ _ _ _ r h => by simp [proof_chainInner.l0] at h
  | k + 1 => by
    have ih0 := proof_chainInner.mono_l k
    · intro y0 y1 y2 y3 y4 y5 y6 y7 y8 y9 y10
      unfold proof_chainInner.l0
      repeat' first
      | (with_reducible exact ih0 _ _ _ _ _ _ _ _ _ _ _)
      | (with_reducible exact impl_toy_HashChildren.mono _ _ _ _ _ _ _ _ _)
      | (with_reducible exact LeO.refl _)
      | (with_reducible exact LeO.none _)
      | (with_reducible refine LeO.ite ?_ ?_)
      | (with_reducible refine LeO.bind ?_ (fun _ => ?_))
      | exact ih0 _ _ _ _ _ _ _ _ _ _ _
      | exact impl_toy_HashChildren.mono _ _ _ _ _ _ _ _ _
      | exact LeO.none _
      | refine LeO.ite ?_ ?_
      | refine LeO.bind ?_ (fun _ => ?_)
theorem proof_chainInner.mono : ∀ a0 a1 a2 a3 a4 a5 a6 a7 a8 k, LeO (proof_chainInner.f k a0 a1 a2 a3 a4 a5 a6 a7 a8) (proof_chainInner.f (k + 1) a0 a1 a2 a3 a4 a5 a6 a7 a8) := by
  intro a0 a1 a2 a3 a4 a5 a6 a7 a8 k
  have ih0 := proof_chainInner.mono_l k
  unfold proof_chainInner.f
  repeat' first
      | (with_reducible exact ih0 _ _ _ _ _ _ _ _ _ _ _)
      | (with_reducible exact impl_toy_HashChildren.mono _ _ _ _ _ _ _ _ _)
      | (with_reducible exact LeO.refl _)
      | (with_reducible exact LeO.none _)
      | (with_reducible refine LeO.ite ?_ ?_)
      | (with_reducible refine LeO.bind ?_ (fun _ => ?_))
      | exact ih0 _ _ _ _ _ _ _ _ _ _ _
      | exact impl_toy_HashChildren.mono _ _ _ _ _ _ _ _ _
      | exact LeO.none _
      | refine LeO.ite ?_ ?_
      | refine LeO.bind ?_ (fun _ => ?_)
set_option maxHeartbeats 8000000 in
set_option maxRecDepth 100000 in
theorem proof_chainInner.calls (k : Nat) (a0_0 : Int) (a0_1 : Int) (a0_2 : Int) (a0_3 : Int) (a0_4 : Int) (a0_5 : Int) (P1_ : Nat → Prop) (A1 : Option Addr) (c1 : Nat) (l1 : List Int) (A2 : Option Addr) (c2 : Nat) (l2 : List (List Int)) (a3 : Int) (r : List Int) (w : World) (hs1 : Kd.V (Kd.int .u8) 5 w w.heap.size (fun k_ => P1_ k_) (.slice A1 l1.length c1) l1) (hr2 : Kd.C (Kd.slice 5 (Kd.int .u8)) w A2 l2.length l2) (hc2 : l2.length ≤ c2) (h : proof_chainInner.f k a0_0 a0_1 a0_2 a0_3 a0_4 a0_5 l1 l2 a3 = some r) :
    Calls Try.prog 41 #[.iface 52 (.agg #[.int .i64 a0_0, .int .i64 a0_1, .int .i64 a0_2, .int .u64 a0_3, .int .u64 a0_4, .int .u64 a0_5]), .slice A1 l1.length c1, .slice A2 l2.length c2, .int .u64 a3] w fun e w' => ∃ v0_ : Value, e = .returned (v0_) ∧ Kd.V (Kd.int .u8) 5 w' w.heap.size (fun k_ => (P1_ k_ ∨ w.heap.size ≤ k_)) v0_ r ∧ Below w.heap.size w w' := by
  have HO1 := Aside0.mk (show Kd.V (Kd.int .u8) 5 w w.heap.size (fun k_ => (P1_ k_ ∨ w.heap.size ≤ k_)) (.slice A1 l1.length c1) l1 from Kd.V_mono hs1 (fun k_ hk => .inl hk))
  have HR2 := Aside0.mk hr2
  have HC2 := Aside0.mk hc2
  clear hr2 hc2
  have HB := Aside0.mk (Below.refl w.heap.size w)
  have H : (proof_chainInner.l0 k l1 a3 l2 (l2.length : Int) 0 a0_0 a0_1 a0_2 a0_3 a0_4 a0_5) = some r := h
  clear h
  have H' := Aside0.mk H
  clear H
  go_enter Try.func41, Try.ntmps41
  go_wp2
  go_loopg [1, 13] k (fun kq v1 v13 w' => ∃ (x1_1 : List Int) (x13_1 : Int), v13 = .int .i64 x13_1 ∧ Aside0 (proof_chainInner.l0 kq x1_1 a3 l2 (l2.length : Int) x13_1 a0_0 a0_1 a0_2 a0_3 a0_4 a0_5 = some r) ∧ Aside0 (kq ≤ k) ∧ Aside0 (Kd.V (Kd.int .u8) 5 w' w.heap.size (fun k_ => (P1_ k_ ∨ w.heap.size ≤ k_)) v1 x1_1) ∧ Aside0 (Below w.heap.size w w'))
  case atStart => exact ⟨(l1), (0), (by first | rfl | (simp; done) | (simp [*]; done)), H', ⟨Nat.le_refl _⟩, ⟨by (with_reducible repeat (first | apply Kd.V_alloc | apply Kd.V_drewN | apply Kd.V_drew)); exact HO1.out⟩, ⟨by repeat (first | (with_reducible first | exact HB.out | apply below_alloc | apply pw_below_drewN | apply below_drew1) | exact HB.out)⟩⟩
  case round =>
    clear H'
    try clear c1
    try clear c2
    try clear p2
    try clear c4
    obtain ⟨x1_1, x13_1, rfl, HA, HK1, HO_1, HB⟩ := hrel
    cases gk with
    | zero => exact absurd HA.out (by simp [proof_chainInner.l0])
    | succ k1 =>
      have H := HA.out
      clear HA
      simp only [proof_chainInner.l0] at H
      by_cases c5 : x13_1 < (l2.length : Int)
      · rw [if_pos c5] at H
        have c5b0 : decide (x13_1 < (l2.length : Int)) = true := decide_eq_true c5
        clear c5
        by_cases c6 : 0 ≤ x13_1
        · rw [if_pos c6] at H
          have c6b0 : decide (0 ≤ x13_1) = true := decide_eq_true c6
          clear c6
          by_cases c7 : x13_1 < (l2.length : Int)
          · rw [if_pos c7] at H
            have c7b0 : decide (x13_1 < (l2.length : Int)) = true := decide_eq_true c7
            clear c7
            obtain ⟨ji8, hji8⟩ : ∃ j_ : Int, (IntKind.u64.wrap (x13_1)) = j_ := ⟨_, rfl⟩
            replace H : (if 0 ≤ (ji8) then (if (Go.bits .and .u64 (shr .u64 a3 (ji8)) 1) = 0 then ((impl_toy_HashChildren.f k1 a0_0 a0_1 a0_2 a0_3 a0_4 a0_5 x1_1 (rd_L1 l2 x13_1)).bind fun t147 => (proof_chainInner.l0 k1 t147 a3 l2 (l2.length : Int) (wrap64 (x13_1 + 1)) a0_0 a0_1 a0_2 a0_3 a0_4 a0_5)) else ((impl_toy_HashChildren.f k1 a0_0 a0_1 a0_2 a0_3 a0_4 a0_5 (rd_L1 l2 x13_1) x1_1).bind fun t150 => (proof_chainInner.l0 k1 t150 a3 l2 (l2.length : Int) (wrap64 (x13_1 + 1)) a0_0 a0_1 a0_2 a0_3 a0_4 a0_5))) else (none)) = some r := by first | (rw [hji8] at H; exact H) | (simp only [hji8] at H ⊢; exact H)
            by_cases c9 : 0 ≤ (ji8)
            · rw [if_pos c9] at H
              have c9b0 := eq_true c9
              have c9b1 : decide (0 ≤ (ji8)) = true := decide_eq_true c9
              clear c9
              obtain ⟨ji10, hji10⟩ : ∃ j_ : Int, (shr .u64 a3 (ji8)) = j_ := ⟨_, rfl⟩
              replace H : (if (Go.bits .and .u64 (ji10) 1) = 0 then ((impl_toy_HashChildren.f k1 a0_0 a0_1 a0_2 a0_3 a0_4 a0_5 x1_1 (rd_L1 l2 x13_1)).bind fun t147 => (proof_chainInner.l0 k1 t147 a3 l2 (l2.length : Int) (wrap64 (x13_1 + 1)) a0_0 a0_1 a0_2 a0_3 a0_4 a0_5)) else ((impl_toy_HashChildren.f k1 a0_0 a0_1 a0_2 a0_3 a0_4 a0_5 (rd_L1 l2 x13_1) x1_1).bind fun t150 => (proof_chainInner.l0 k1 t150 a3 l2 (l2.length : Int) (wrap64 (x13_1 + 1)) a0_0 a0_1 a0_2 a0_3 a0_4 a0_5))) = some r := by first | (rw [hji10] at H; exact H) | (simp only [hji10] at H ⊢; exact H)
              have hji10_ : (a3 / 2 ^ min (ji8).toNat 64) = ji10 := hji10
              have hji10z : (ji8) ≤ 64 → (a3 / 2 ^ (ji8).toNat) = ji10 := shr_small hji10
              by_cases c11 : (Go.bits .and .u64 (ji10) 1) = 0
              · rw [if_pos c11] at H
                have c11b0 : ((Go.bits .and .u64 (ji10) 1) == 0) = true := beq_iff_eq.mpr c11
                have c11b1 : ((Go.bits .and .u64 (ji10) 1) != 0) = false := bne_eq_false_iff_eq.mpr c11
                clear c11
                replace H := Option.bind_eq_some_iff.mp H
                obtain ⟨t147, A120, H⟩ := H
                replace H : (proof_chainInner.l0 k1 t147 a3 l2 (l2.length : Int) (wrap64 (x13_1 + 1)) a0_0 a0_1 a0_2 a0_3 a0_4 a0_5) = some r := H
                have A12 := Aside0.mk A120
                clear A120
                have H' := Aside0.mk H
                clear H
                have p146 : 0 ≤ (x13_1 : Int) := of_decide_eq_true (by first | (with_reducible assumption) | assumption)
                have q146 : x13_1 < (l2.length : Int) := of_decide_eq_true (by first | (with_reducible assumption) | assumption)
                obtain ⟨ad146, A146_0, c146_0, e146, hx146_0, hl146_0, hi146_0⟩ := at_L1 HR2.out x13_1 p146 q146
                cases e146
                replace hx146_0 := (HB.out.cell (World.block_lt_of_cell? w _ hx146_0)).trans hx146_0
                have HR146_0 := Aside0.mk hi146_0
                have HC146_0 := Aside0.mk hl146_0
                clear hi146_0 hl146_0
                replace p146 := eq_true p146
                replace q146 := eq_true q146
                obtain ⟨Ao13, co13, eo13⟩ := Kd.V_slice HO_1.out
                subst eo13
                go_wp2_with (first | ((with_reducible refine gate_invoke (m := "HashChildren") rfl ?_); refine invokesL_ (some 27) rfl rfl Try.func21 (by kernel_rfl) rfl 52 (.agg #[.int .i64 a0_0, .int .i64 a0_1, .int .i64 a0_2, .int .u64 a0_3, .int .u64 a0_4, .int .u64 a0_5]) #[.slice Ao13 x1_1.length co13, .slice A146_0 (rd_L1 l2 x13_1).length c146_0] #[.agg #[.int .i64 a0_0, .int .i64 a0_1, .int .i64 a0_2, .int .u64 a0_3, .int .u64 a0_4, .int .u64 a0_5], .slice Ao13 x1_1.length co13, .slice A146_0 (rd_L1 l2 x13_1).length c146_0] rfl rfl (by first | rfl | (simp only [Act.eval]; rfl)) (by (try simp only [List.map_toArray, List.map_cons, List.map_nil]); first | done | rfl | (simp only [List.length_drop, List.length_take]; rfl)) (fun _ => by kernel_rfl) ?_; (with_reducible refine (impl_toy_HashChildren.calls k1 a0_0 a0_1 a0_2 a0_3 a0_4 a0_5 _ _ x1_1 _ _ (rd_L1 l2 x13_1) t147 _ ?side1 ?side2 ?side3 ?side4 A12.out).mono ?_); (case side1 => repeat (first | exact (Kd.V_reads' HO_1.out).2.2 | (with_reducible refine Kd.C_alloc ?_ _) | (with_reducible refine Kd.C_drewN ?_ _) | (with_reducible refine Kd.C_drew ?_))); (case side2 => exact (Kd.V_reads' HO_1.out).2.1); (case side3 => repeat (first | exact (Kd.C_below HR146_0.out HB.out) | (with_reducible refine Kd.C_alloc ?_ _) | (with_reducible refine Kd.C_drewN ?_ _) | (with_reducible refine Kd.C_drew ?_))); (case side4 => exact HC146_0.out); rintro e w14 ⟨v148, rfl, ho0, hb⟩; refine ⟨_, rfl, ?_⟩; have n0_ := Aside0.mk (Kd.V_elder' (by (with_reducible repeat (first | apply Kd.V_alloc | apply Kd.V_drewN | apply Kd.V_drew)); exact HO_1.out) (Kd.R_base ho0) hb); have n1_ := Aside0.mk (Kd.R_lower (Kd.R_newM (M := fun k_ => (w.heap.size ≤ k_)) ho0 (below_size (by repeat (first | (with_reducible first | exact HB.out | apply below_alloc | apply pw_below_drewN | apply below_drew1) | exact HB.out))) (fun k_ h_ => h_)) (below_size (by repeat (first | (with_reducible first | exact HB.out | apply below_alloc | apply pw_below_drewN | apply below_drew1) | exact HB.out)))); have n2_ := Aside0.mk (below_step (by repeat (first | (with_reducible first | exact HB.out | apply below_alloc | apply pw_below_drewN | apply below_drew1) | exact HB.out)) hb); clear HO_1; clear HB; have HO_1 := n0_; have HO149 := n1_; have HB := n2_; clear n0_ n1_ n2_; (try clear hb); (try clear hb2); (try clear hk); (try clear hi); (try clear ho0)))
                go_roundg k1
                case measure => have := HK1.out; omega
                case rel => exact ⟨(t147), (wrap64 (x13_1 + 1)), (by first | rfl | (simp; done) | (simp [*]; done)), H', ⟨by have := HK1.out; omega⟩, ⟨Kd.V_mono (Kd.R_V (by (with_reducible repeat (first | apply Kd.R_alloc | apply Kd.R_drewN | apply Kd.R_drew)); exact Kd.R_mono HO149.out (fun _ hk => hk.1))) (fun k_ hk => by first | exact ⟨(.inr (hk.1)), hk.2⟩ | exact (.inr (hk)))⟩, ⟨by repeat (first | (with_reducible first | exact HB.out | apply below_alloc | apply pw_below_drewN | apply below_drew1) | exact HB.out)⟩⟩
              · rw [if_neg c11] at H
                have c11b0 : ((Go.bits .and .u64 (ji10) 1) == 0) = false := beq_eq_false_iff_ne.mpr c11
                have c11b1 : ((Go.bits .and .u64 (ji10) 1) != 0) = true := bne_iff_ne.mpr c11
                replace H := Option.bind_eq_some_iff.mp H
                obtain ⟨t150, A150, H⟩ := H
                replace H : (proof_chainInner.l0 k1 t150 a3 l2 (l2.length : Int) (wrap64 (x13_1 + 1)) a0_0 a0_1 a0_2 a0_3 a0_4 a0_5) = some r := H
                have A15 := Aside0.mk A150
                clear A150
                have H' := Aside0.mk H
                clear H
                have p146 : 0 ≤ (x13_1 : Int) := of_decide_eq_true (by first | (with_reducible assumption) | assumption)
                have q146 : x13_1 < (l2.length : Int) := of_decide_eq_true (by first | (with_reducible assumption) | assumption)
                obtain ⟨ad146, A146_0, c146_0, e146, hx146_0, hl146_0, hi146_0⟩ := at_L1 HR2.out x13_1 p146 q146
                cases e146
                replace hx146_0 := (HB.out.cell (World.block_lt_of_cell? w _ hx146_0)).trans hx146_0
                have HR146_0 := Aside0.mk hi146_0
                have HC146_0 := Aside0.mk hl146_0
                clear hi146_0 hl146_0
                replace p146 := eq_true p146
                replace q146 := eq_true q146
                obtain ⟨Ao16, co16, eo16⟩ := Kd.V_slice HO_1.out
                subst eo16
                go_wp2_with (first | ((with_reducible refine gate_invoke (m := "HashChildren") rfl ?_); refine invokesL_ (some 31) rfl rfl Try.func21 (by kernel_rfl) rfl 52 (.agg #[.int .i64 a0_0, .int .i64 a0_1, .int .i64 a0_2, .int .u64 a0_3, .int .u64 a0_4, .int .u64 a0_5]) #[.slice A146_0 (rd_L1 l2 x13_1).length c146_0, .slice Ao16 x1_1.length co16] #[.agg #[.int .i64 a0_0, .int .i64 a0_1, .int .i64 a0_2, .int .u64 a0_3, .int .u64 a0_4, .int .u64 a0_5], .slice A146_0 (rd_L1 l2 x13_1).length c146_0, .slice Ao16 x1_1.length co16] rfl rfl (by first | rfl | (simp only [Act.eval]; rfl)) (by (try simp only [List.map_toArray, List.map_cons, List.map_nil]); first | done | rfl | (simp only [List.length_drop, List.length_take]; rfl)) (fun _ => by kernel_rfl) ?_; (with_reducible refine (impl_toy_HashChildren.calls k1 a0_0 a0_1 a0_2 a0_3 a0_4 a0_5 _ _ (rd_L1 l2 x13_1) _ _ x1_1 t150 _ ?side1 ?side2 ?side3 ?side4 A15.out).mono ?_); (case side1 => repeat (first | exact (Kd.C_below HR146_0.out HB.out) | (with_reducible refine Kd.C_alloc ?_ _) | (with_reducible refine Kd.C_drewN ?_ _) | (with_reducible refine Kd.C_drew ?_))); (case side2 => exact HC146_0.out); (case side3 => repeat (first | exact (Kd.V_reads' HO_1.out).2.2 | (with_reducible refine Kd.C_alloc ?_ _) | (with_reducible refine Kd.C_drewN ?_ _) | (with_reducible refine Kd.C_drew ?_))); (case side4 => exact (Kd.V_reads' HO_1.out).2.1); rintro e w17 ⟨v151, rfl, ho0, hb⟩; refine ⟨_, rfl, ?_⟩; have n0_ := Aside0.mk (Kd.V_elder' (by (with_reducible repeat (first | apply Kd.V_alloc | apply Kd.V_drewN | apply Kd.V_drew)); exact HO_1.out) (Kd.R_base ho0) hb); have n1_ := Aside0.mk (Kd.R_lower (Kd.R_newM (M := fun k_ => (w.heap.size ≤ k_)) ho0 (below_size (by repeat (first | (with_reducible first | exact HB.out | apply below_alloc | apply pw_below_drewN | apply below_drew1) | exact HB.out))) (fun k_ h_ => h_)) (below_size (by repeat (first | (with_reducible first | exact HB.out | apply below_alloc | apply pw_below_drewN | apply below_drew1) | exact HB.out)))); have n2_ := Aside0.mk (below_step (by repeat (first | (with_reducible first | exact HB.out | apply below_alloc | apply pw_below_drewN | apply below_drew1) | exact HB.out)) hb); clear HO_1; clear HB; have HO_1 := n0_; have HO152 := n1_; have HB := n2_; clear n0_ n1_ n2_; (try clear hb); (try clear hb2); (try clear hk); (try clear hi); (try clear ho0)))
                go_roundg k1
                case measure => have := HK1.out; omega
                case rel => exact ⟨(t150), (wrap64 (x13_1 + 1)), (by first | rfl | (simp; done) | (simp [*]; done)), H', ⟨by have := HK1.out; omega⟩, ⟨Kd.V_mono (Kd.R_V (by (with_reducible repeat (first | apply Kd.R_alloc | apply Kd.R_drewN | apply Kd.R_drew)); exact Kd.R_mono HO152.out (fun _ hk => hk.1))) (fun k_ hk => by first | exact ⟨(.inr (hk.1)), hk.2⟩ | exact (.inr (hk)))⟩, ⟨by repeat (first | (with_reducible first | exact HB.out | apply below_alloc | apply pw_below_drewN | apply below_drew1) | exact HB.out)⟩⟩
            · rw [if_neg c9] at H
              exact absurd H (by simp)
          · rw [if_neg c7] at H
            exact absurd H (by simp)
        · rw [if_neg c6] at H
          exact absurd H (by simp)
      · rw [if_neg c5] at H
        have c5b0 : decide (x13_1 < (l2.length : Int)) = false := decide_eq_false c5
        clear c5
        obtain rfl := Option.some.inj H
        go_wp2
        go_ret
        exact ⟨_, by first | rfl | (simp [errW_none, errW_some] <;> rfl) | (simp [*, errW_none, errW_some] <;> rfl), by (with_reducible repeat (first | apply Kd.V_alloc | apply Kd.V_drewN | apply Kd.V_drew)); exact HO_1.out, by repeat (first | (with_reducible first | exact HB.out | apply below_alloc | apply pw_below_drewN | apply below_drew1) | exact HB.out)⟩

end Go.Proofs.Ytkmdkmlgahfcpaa.M

namespace Go.Proofs.Ytkmdkmlgahfcpaa.M
open Go.RowKit Go.Proofs.YtkmdkmlgahfcpaaW.PrintWords Go.Proofs.YtkmdkmlgahfcpaaW.PrintLast Go.Proofs.YtkmdkmlgahfcpaaW.PrintMore
attribute [local go_sem] max2_int min2_int max_two min_two max_three min_three max_four min_four   -- for this text's walks alone
set_option linter.unusedVariables false
set_option linter.unusedSimpArgs false

/-! ### proof_chainBorderRight: function 42 -/
def proof_chainBorderRight.l0 : Nat → List Int → List (List Int) → Int → Int → Int → Int → Int → Int → Int → Int → Option (List Int)
  | 0, _, _, _, _, _, _, _, _, _, _ => none
  | k + 1, x1, x9, x10, x11, x9001000, x9001001, x9001002, x9001003, x9001004, x9001005 => if x11 < x10 then (if 0 ≤ x11 then (if x11 < (x9.length : Int) then ((impl_toy_HashChildren.f k x9001000 x9001001 x9001002 x9001003 x9001004 x9001005 (rd_L1 x9 x11) x1).bind fun t154 => (proof_chainBorderRight.l0 k t154 x9 x10 (wrap64 (x11 + 1)) x9001000 x9001001 x9001002 x9001003 x9001004 x9001005)) else (none)) else (none)) else (some x1)
def proof_chainBorderRight.f (k : Nat) (a0_0 : Int) (a0_1 : Int) (a0_2 : Int) (a0_3 : Int) (a0_4 : Int) (a0_5 : Int) (l1 : List Int) (l2 : List (List Int)) : Option (List Int) := proof_chainBorderRight.l0 k l1 l2 (l2.length : Int) 0 a0_0 a0_1 a0_2 a0_3 a0_4 a0_5
theorem proof_chainBorderRight.mono_l : ∀ k, (∀ y0 y1 y2 y3 y4 y5 y6 y7 y8 y9, LeO (proof_chainBorderRight.l0 k y0 y1 y2 y3 y4 y5 y6 y7 y8 y9) (proof_chainBorderRight.l0 (k + 1) y0 y1 y2 y3 y4 y5 y6 y7 y8 y9))
  | 0 => fun _ _ _ _ _ _ _ _ _ _ r h => by simp [proof_chainBorderRight.l0] at h
  | k + 1 => by
    have ih0 := proof_chainBorderRight.mono_l k
    · intro y0 y1 y2 y3 y4 y5 y6 y7 y8 y9
      unfold proof_chainBorderRight.l0
      repeat' first
      | (with_reducible exact ih0 _ _ _ _ _ _ _ _ _ _)
      | (with_reducible exact impl_toy_HashChildren.mono _ _ _ _ _ _ _ _ _)
      | (with_reducible exact LeO.refl _)
      | (with_reducible exact LeO.none _)
      | (with_reducible refine LeO.ite ?_ ?_)
      | (with_reducible refine LeO.bind ?_ (fun _ => ?_))
      | exact ih0 _ _ _ _ _ _ _ _ _ _
      | exact impl_toy_HashChildren.mono _ _ _ _ _ _ _ _ _
      | exact LeO.none _
      | refine LeO.ite ?_ ?_
      | refine LeO.bind ?_ (fun _ => ?_)
theorem proof_chainBorderRight.mono : ∀ a0 a1 a2 a3 a4 a5 a6 a7 k, LeO (proof_chainBorderRight.f k a0 a1 a2 a3 a4 a5 a6 a7) (proof_chainBorderRight.f (k + 1) a0 a1 a2 a3 a4 a5 a6 a7) := by
  intro a0 a1 a2 a3 a4 a5 a6 a7 k
  have ih0 := proof_chainBorderRight.mono_l k
  unfold proof_chainBorderRight.f
  repeat' first
      | (with_reducible exact ih0 _ _ _ _ _ _ _ _ _ _)
      | (with_reducible exact impl_toy_HashChildren.mono _ _ _ _ _ _ _ _ _)
      | (with_reducible exact LeO.refl _)
      | (with_reducible exact LeO.none _)
      | (with_reducible refine LeO.ite ?_ ?_)
      | (with_reducible refine LeO.bind ?_ (fun _ => ?_))
      | exact ih0 _ _ _ _ _ _ _ _ _ _
      | exact impl_toy_HashChildren.mono _ _ _ _ _ _ _ _ _
      | exact LeO.none _
      | refine LeO.ite ?_ ?_
      | refine LeO.bind ?_ (fun _ => ?_)
set_option maxHeartbeats 8000000 in
set_option maxRecDepth 100000 in
theorem proof_chainBorderRight.calls (k : Nat) (a0_0 : Int) (a0_1 : Int) (a0_2 : Int) (a0_3 : Int) (a0_4 : Int) (a0_5 : Int) (P1_ : Nat → Prop) (A1 : Option Addr) (c1 : Nat) (l1 : List Int) (A2 : Option Addr) (c2 : Nat) (l2 : List (List Int)) (r : List Int) (w : World) (hs1 : Kd.V (Kd.int .u8) 5 w w.heap.size (fun k_ => P1_ k_) (.slice A1 l1.length c1) l1) (hr2 : Kd.C (Kd.slice 5 (Kd.int .u8)) w A2 l2.length l2) (hc2 : l2.length ≤ c2) (h : proof_chainBorderRight.f k a0_0 a0_1 a0_2 a0_3 a0_4 a0_5 l1 l2 = some r) :
    Calls Try.prog 42 #[.iface 52 (.agg #[.int .i64 a0_0, .int .i64 a0_1, .int .i64 a0_2, .int .u64 a0_3, .int .u64 a0_4, .int .u64 a0_5]), .slice A1 l1.length c1, .slice A2 l2.length c2] w fun e w' => ∃ v0_ : Value, e = .returned (v0_) ∧ Kd.V (Kd.int .u8) 5 w' w.heap.size (fun k_ => (P1_ k_ ∨ w.heap.size ≤ k_)) v0_ r ∧ Below w.heap.size w w' := by
  have HO1 := Aside0.mk (show Kd.V (Kd.int .u8) 5 w w.heap.size (fun k_ => (P1_ k_ ∨ w.heap.size ≤ k_)) (.slice A1 l1.length c1) l1 from Kd.V_mono hs1 (fun k_ hk => .inl hk))
  have HR2 := Aside0.mk hr2
  have HC2 := Aside0.mk hc2
  clear hr2 hc2
  have HB := Aside0.mk (Below.refl w.heap.size w)
  have H : (proof_chainBorderRight.l0 k l1 l2 (l2.length : Int) 0 a0_0 a0_1 a0_2 a0_3 a0_4 a0_5) = some r := h
  clear h
  have H' := Aside0.mk H
  clear H
  go_enter Try.func42, Try.ntmps42
  go_wp2
  go_loopg [1, 11] k (fun kq v1 v11 w' => ∃ (x1_1 : List Int) (x11_1 : Int), v11 = .int .i64 x11_1 ∧ Aside0 (proof_chainBorderRight.l0 kq x1_1 l2 (l2.length : Int) x11_1 a0_0 a0_1 a0_2 a0_3 a0_4 a0_5 = some r) ∧ Aside0 (kq ≤ k) ∧ Aside0 (Kd.V (Kd.int .u8) 5 w' w.heap.size (fun k_ => (P1_ k_ ∨ w.heap.size ≤ k_)) v1 x1_1) ∧ Aside0 (Below w.heap.size w w'))
  case atStart => exact ⟨(l1), (0), (by first | rfl | (simp; done) | (simp [*]; done)), H', ⟨Nat.le_refl _⟩, ⟨by (with_reducible repeat (first | apply Kd.V_alloc | apply Kd.V_drewN | apply Kd.V_drew)); exact HO1.out⟩, ⟨by repeat (first | (with_reducible first | exact HB.out | apply below_alloc | apply pw_below_drewN | apply below_drew1) | exact HB.out)⟩⟩
  case round =>
    clear H'
    try clear c1
    try clear c2
    try clear p2
    obtain ⟨x1_1, x11_1, rfl, HA, HK1, HO_1, HB⟩ := hrel
    cases gk with
    | zero => exact absurd HA.out (by simp [proof_chainBorderRight.l0])
    | succ k1 =>
      have H := HA.out
      clear HA
      simp only [proof_chainBorderRight.l0] at H
      by_cases c4 : x11_1 < (l2.length : Int)
      · rw [if_pos c4] at H
        have c4b0 : decide (x11_1 < (l2.length : Int)) = true := decide_eq_true c4
        clear c4
        by_cases c5 : 0 ≤ x11_1
        · rw [if_pos c5] at H
          have c5b0 : decide (0 ≤ x11_1) = true := decide_eq_true c5
          clear c5
          by_cases c6 : x11_1 < (l2.length : Int)
          · rw [if_pos c6] at H
            have c6b0 : decide (x11_1 < (l2.length : Int)) = true := decide_eq_true c6
            clear c6
            replace H := Option.bind_eq_some_iff.mp H
            obtain ⟨t154, A70, H⟩ := H
            replace H : (proof_chainBorderRight.l0 k1 t154 l2 (l2.length : Int) (wrap64 (x11_1 + 1)) a0_0 a0_1 a0_2 a0_3 a0_4 a0_5) = some r := H
            have A7 := Aside0.mk A70
            clear A70
            have H' := Aside0.mk H
            clear H
            have p153 : 0 ≤ (x11_1 : Int) := of_decide_eq_true (by first | (with_reducible assumption) | assumption)
            have q153 : x11_1 < (l2.length : Int) := of_decide_eq_true (by first | (with_reducible assumption) | assumption)
            obtain ⟨ad153, A153_0, c153_0, e153, hx153_0, hl153_0, hi153_0⟩ := at_L1 HR2.out x11_1 p153 q153
            cases e153
            replace hx153_0 := (HB.out.cell (World.block_lt_of_cell? w _ hx153_0)).trans hx153_0
            have HR153_0 := Aside0.mk hi153_0
            have HC153_0 := Aside0.mk hl153_0
            clear hi153_0 hl153_0
            replace p153 := eq_true p153
            replace q153 := eq_true q153
            obtain ⟨Ao8, co8, eo8⟩ := Kd.V_slice HO_1.out
            subst eo8
            go_wp2_with (first | ((with_reducible refine gate_invoke (m := "HashChildren") rfl ?_); refine invokesL_ (some 18) rfl rfl Try.func21 (by kernel_rfl) rfl 52 (.agg #[.int .i64 a0_0, .int .i64 a0_1, .int .i64 a0_2, .int .u64 a0_3, .int .u64 a0_4, .int .u64 a0_5]) #[.slice A153_0 (rd_L1 l2 x11_1).length c153_0, .slice Ao8 x1_1.length co8] #[.agg #[.int .i64 a0_0, .int .i64 a0_1, .int .i64 a0_2, .int .u64 a0_3, .int .u64 a0_4, .int .u64 a0_5], .slice A153_0 (rd_L1 l2 x11_1).length c153_0, .slice Ao8 x1_1.length co8] rfl rfl (by first | rfl | (simp only [Act.eval]; rfl)) (by (try simp only [List.map_toArray, List.map_cons, List.map_nil]); first | done | rfl | (simp only [List.length_drop, List.length_take]; rfl)) (fun _ => by kernel_rfl) ?_; (with_reducible refine (impl_toy_HashChildren.calls k1 a0_0 a0_1 a0_2 a0_3 a0_4 a0_5 _ _ (rd_L1 l2 x11_1) _ _ x1_1 t154 _ ?side1 ?side2 ?side3 ?side4 A7.out).mono ?_); (case side1 => repeat (first | exact (Kd.C_below HR153_0.out HB.out) | (with_reducible refine Kd.C_alloc ?_ _) | (with_reducible refine Kd.C_drewN ?_ _) | (with_reducible refine Kd.C_drew ?_))); (case side2 => exact HC153_0.out); (case side3 => repeat (first | exact (Kd.V_reads' HO_1.out).2.2 | (with_reducible refine Kd.C_alloc ?_ _) | (with_reducible refine Kd.C_drewN ?_ _) | (with_reducible refine Kd.C_drew ?_))); (case side4 => exact (Kd.V_reads' HO_1.out).2.1); rintro e w9 ⟨v155, rfl, ho0, hb⟩; refine ⟨_, rfl, ?_⟩; have n0_ := Aside0.mk (Kd.V_elder' (by (with_reducible repeat (first | apply Kd.V_alloc | apply Kd.V_drewN | apply Kd.V_drew)); exact HO_1.out) (Kd.R_base ho0) hb); have n1_ := Aside0.mk (Kd.R_lower (Kd.R_newM (M := fun k_ => (w.heap.size ≤ k_)) ho0 (below_size (by repeat (first | (with_reducible first | exact HB.out | apply below_alloc | apply pw_below_drewN | apply below_drew1) | exact HB.out))) (fun k_ h_ => h_)) (below_size (by repeat (first | (with_reducible first | exact HB.out | apply below_alloc | apply pw_below_drewN | apply below_drew1) | exact HB.out)))); have n2_ := Aside0.mk (below_step (by repeat (first | (with_reducible first | exact HB.out | apply below_alloc | apply pw_below_drewN | apply below_drew1) | exact HB.out)) hb); clear HO_1; clear HB; have HO_1 := n0_; have HO156 := n1_; have HB := n2_; clear n0_ n1_ n2_; (try clear hb); (try clear hb2); (try clear hk); (try clear hi); (try clear ho0)))
            go_roundg k1
            case measure => have := HK1.out; omega
            case rel => exact ⟨(t154), (wrap64 (x11_1 + 1)), (by first | rfl | (simp; done) | (simp [*]; done)), H', ⟨by have := HK1.out; omega⟩, ⟨Kd.V_mono (Kd.R_V (by (with_reducible repeat (first | apply Kd.R_alloc | apply Kd.R_drewN | apply Kd.R_drew)); exact Kd.R_mono HO156.out (fun _ hk => hk.1))) (fun k_ hk => by first | exact ⟨(.inr (hk.1)), hk.2⟩ | exact (.inr (hk)))⟩, ⟨by repeat (first | (with_reducible first | exact HB.out | apply below_alloc | apply pw_below_drewN | apply below_drew1) | exact HB.out)⟩⟩
          · rw [if_neg c6] at H
            exact absurd H (by simp)
        · rw [if_neg c5] at H
          exact absurd H (by simp)
      · rw [if_neg c4] at H
        have c4b0 : decide (x11_1 < (l2.length : Int)) = false := decide_eq_false c4
        clear c4
        obtain rfl := Option.some.inj H
        go_wp2
        go_ret
        exact ⟨_, by first | rfl | (simp [errW_none, errW_some] <;> rfl) | (simp [*, errW_none, errW_some] <;> rfl), by (with_reducible repeat (first | apply Kd.V_alloc | apply Kd.V_drewN | apply Kd.V_drew)); exact HO_1.out, by repeat (first | (with_reducible first | exact HB.out | apply below_alloc | apply pw_below_drewN | apply below_drew1) | exact HB.out)⟩

end Go.Proofs.Ytkmdkmlgahfcpaa.M

namespace Go.Proofs.Ytkmdkmlgahfcpaa.M
open Go.RowKit Go.Proofs.YtkmdkmlgahfcpaaW.PrintWords Go.Proofs.YtkmdkmlgahfcpaaW.PrintLast Go.Proofs.YtkmdkmlgahfcpaaW.PrintMore
attribute [local go_sem] max2_int min2_int max_two min_two max_three min_three max_four min_four   -- for this text's walks alone
set_option linter.unusedVariables false
set_option linter.unusedSimpArgs false

/-! ### impl_toy_Size: function 69 -/
def impl_toy_Size.f (a0_0 : Int) (a0_1 : Int) (a0_2 : Int) (a0_3 : Int) (a0_4 : Int) (a0_5 : Int) : Option (Int) := some a0_1
set_option maxHeartbeats 8000000 in
set_option maxRecDepth 100000 in
theorem impl_toy_Size.calls (a0_0 : Int) (a0_1 : Int) (a0_2 : Int) (a0_3 : Int) (a0_4 : Int) (a0_5 : Int) (r : Int) (w : World) (h : impl_toy_Size.f a0_0 a0_1 a0_2 a0_3 a0_4 a0_5 = some r) :
    Calls Try.prog 69 #[.agg #[.int .i64 a0_0, .int .i64 a0_1, .int .i64 a0_2, .int .u64 a0_3, .int .u64 a0_4, .int .u64 a0_5]] w fun e w' => e = .returned (.int .i64 r) ∧ Below w.heap.size w w' := by
  have hu52 := Try.underlying52
  have HB := Aside0.mk (Below.refl w.heap.size w)
  have H : (some a0_1) = some r := h
  clear h
  obtain rfl := Option.some.inj H
  go_enter Try.func69, Try.ntmps69
  go_wp2_with (first | ((with_reducible refine gate_dst (N := 1) rfl ?_); refine box_event ?hg (N := 1) ?hd (cs := #[.int .i64 a0_0, .int .i64 a0_1, .int .i64 a0_2, .int .u64 a0_3, .int .u64 a0_4, .int .u64 a0_5]) (t := 52) ?hr ?_; (case hd => rfl); (case hg => rfl); (case hr => first | (go_simp; done) | (go_simp; rfl)); intro gb157 hg w2 hbox hb; have n0_ := Aside0.mk (below_step (by repeat (first | (with_reducible first | exact HB.out | apply below_alloc | apply pw_below_drewN | apply below_drew1) | exact HB.out)) hb); have n1_ := Aside0.mk (hbox); have n2_ := Aside0.mk ((by rw [hg]; exact (below_size (by repeat (first | (with_reducible first | exact HB.out | apply below_alloc | apply pw_below_drewN | apply below_drew1) | exact HB.out))) : w.heap.size ≤ gb157)); have n3_ := Aside0.mk ((by rw [hg]; exact (below_size (by repeat (first | (with_reducible first | exact HB.out | apply below_alloc | apply pw_below_drewN | apply below_drew1) | exact HB.out))) : w.heap.size ≤ gb157)); clear HB; have HB := n0_; have BK157 := n1_; have GW157 := n2_; have GE157 := n3_; clear n0_ n1_ n2_ n3_; clear hb hbox hg; have hcz3_0 : w2.cell? ⟨gb157, 0, none⟩ = some (.int .i64 a0_0) := (blk_cell BK157.out 0).trans rfl; have hcz3_1 : w2.cell? ⟨gb157, 1, none⟩ = some (.int .i64 a0_1) := (blk_cell BK157.out 1).trans rfl; have hcz3_2 : w2.cell? ⟨gb157, 2, none⟩ = some (.int .i64 a0_2) := (blk_cell BK157.out 2).trans rfl; have hcz3_3 : w2.cell? ⟨gb157, 3, none⟩ = some (.int .u64 a0_3) := (blk_cell BK157.out 3).trans rfl; have hcz3_4 : w2.cell? ⟨gb157, 4, none⟩ = some (.int .u64 a0_4) := (blk_cell BK157.out 4).trans rfl; have hcz3_5 : w2.cell? ⟨gb157, 5, none⟩ = some (.int .u64 a0_5) := (blk_cell BK157.out 5).trans rfl; have hfz3_0 := blk_frozen BK157.out 0; have hfz3_1 := blk_frozen BK157.out 1; have hfz3_2 := blk_frozen BK157.out 2; have hfz3_3 := blk_frozen BK157.out 3; have hfz3_4 := blk_frozen BK157.out 4; have hfz3_5 := blk_frozen BK157.out 5))
  go_ret
  exact ⟨by first | rfl | (simp [errW_none, errW_some] <;> rfl) | (simp [*, errW_none, errW_some] <;> rfl), by repeat (first | (with_reducible first | exact HB.out | apply below_alloc | apply pw_below_drewN | apply below_drew1 | refine below_set ?_ GE157.out) | exact HB.out)⟩

end Go.Proofs.Ytkmdkmlgahfcpaa.M

