-- Written by a program of ours (wip/xp) out of the translation; Lean checks it.
import Derived.Test.YtkmdkmlgahfcpaaDoorProg
import Derived.Below
import Derived.Deep.Draws
import Derived.Deep.AppendLies
import Derived.Maps.AppendAt
import Derived.OwnWalk
import Derived.Laws.BytesArg
import Derived.Laws.MakeOwn
import Derived.Laws.OwnMore
import Derived.Deep.OwnRows
import Derived.Tactics
import Derived.Lib.ConvBytes
import Derived.Laws.Slices
import Derived.WalkKit
import Derived.KernelRfl
import Derived.RowKit3
import Derived.Deep.LoopGhost
import Derived.Deep.QuietTactic
import Derived.BigQuiet
import Derived.WideLaws
import Derived.Deep.DeepCutAuto
import Derived.Deep.CutBlock
import Derived.Deep.RegionHeld3
import Derived.Laws.Rows
import Derived.Lib.AppendStr
import Derived.ArgAppend
import Derived.Laws.IdiomCopy
import Derived.OrdersHeld
import Derived.Laws.BitsLemmas
import Derived.RowKit
import Derived.Test.YtkmdkmlgahfcpaaDoorShelf
import Derived.Test.YtkmdkmlgahfcpaaDoorTab
import Derived.Test.YtkmdkmlgahfcpaaDoorOnes
import Derived.Test.YtkmdkmlgahfcpaaDoorInv3
import Derived.Test.YtkmdkmlgahfcpaaDoorErrV
import Derived.Handy
import Derived.Deep.DrawnRows
import Derived.StillTailTactics
import Derived.Laws.Bits64b
import Derived.Deep.RegionLaw
import Derived.Test.YtkmdkmlgahfcpaaDoorWWords
import Derived.Test.YtkmdkmlgahfcpaaDoorWLast
import Derived.Test.YtkmdkmlgahfcpaaDoorWTab
import Derived.Test.YtkmdkmlgahfcpaaDoorWFour
import Derived.Test.YtkmdkmlgahfcpaaDoorWQPut
import Derived.Test.YtkmdkmlgahfcpaaDoorWApart
import Derived.Test.YtkmdkmlgahfcpaaDoorWArr
import Derived.Test.YtkmdkmlgahfcpaaDoorWZeros
import Derived.Test.YtkmdkmlgahfcpaaDoorWFoot
import Derived.Test.YtkmdkmlgahfcpaaDoorWKept
import Derived.Test.YtkmdkmlgahfcpaaDoorWShare
import Derived.Test.YtkmdkmlgahfcpaaDoorWN
import Derived.Test.YtkmdkmlgahfcpaaDoorWFootNe
import Derived.Test.YtkmdkmlgahfcpaaDoorWAt
import Derived.Test.YtkmdkmlgahfcpaaDoorWEqStruct
import Derived.Test.YtkmdkmlgahfcpaaDoorWRepsOne
import Derived.Test.YtkmdkmlgahfcpaaDoorWInv
import Derived.Test.YtkmdkmlgahfcpaaDoorWInvWords
import Derived.Test.YtkmdkmlgahfcpaaDoorWGuard
import Derived.Test.YtkmdkmlgahfcpaaDoorWNEv
import Derived.Test.YtkmdkmlgahfcpaaDoorWMore
namespace Go.Proofs.YtkmdkmlgahfcpaaDoor.M
open Go.RowKit Go.Proofs.YtkmdkmlgahfcpaaDoorW.PrintWords Go.Proofs.YtkmdkmlgahfcpaaDoorW.PrintLast Go.Proofs.YtkmdkmlgahfcpaaDoorW.PrintMore
attribute [local go_sem] max2_int min2_int max_two min_two max_three min_three max_four min_four   -- for this text's walks alone
set_option linter.unusedVariables false
set_option linter.unusedSimpArgs false



def ptrOf : Value → Option Addr
  | .pointer p => p
  | _ => none
def errW (T : Int → TypeId) (X : Int → Value) : Option Int → Value
  | none => .nilIface
  | some c => .iface 178 (.pointer (ptrOf (X c)))
theorem errW_none (T : Int → TypeId) (X : Int → Value) : errW T X none = .nilIface := rfl
theorem errW_some (T : Int → TypeId) (X : Int → Value) (c : Int) : errW T X (some c) = .iface 178 (.pointer (ptrOf (X c))) := rfl

theorem info5 : (Tryd.prog.info? 5).map (fun i => (i.zero, i.size, i.bytes)) = some (some (.int .u8 0), 1, 1) := by kernel_rfl
theorem info27 : (Tryd.prog.info? 27).map (fun i => (i.zero, i.size, i.bytes)) = some (some (.slice none 0 0), 1, 24) := by kernel_rfl
theorem info106 : (Tryd.prog.info? 106).map (fun i => (i.zero, i.size, i.bytes)) = some (some (.agg #[(.int .u64 0), (.int .u64 0)]), 2, 16) := by kernel_rfl
-- the values' own types
def rd_L1 (xs : List (List Int)) (i : Int) : (List Int) := xs.getD i.toNat ([] : List Int)
theorem at_L1 {w : World} {A : Option Addr} {n : Nat} {xs : List (List Int)} (h : Kd.C (Kd.slice 5 (Kd.int .u8)) w A n xs) (i : Int) (h0 : 0 ≤ i) (h1 : i < n) : ∃ ad A0 c0, A = some ad ∧ w.cell? (ad.add i.toNat) = some (.slice A0 (rd_L1 xs i).length c0) ∧ (rd_L1 xs i).length ≤ c0 ∧ (Kd.int .u8).C w A0 (rd_L1 xs i).length (rd_L1 xs i) := by
  obtain ⟨ad, c, e, _, hK, hc0⟩ := Kd.C_get h ([] : List Int) i h0 h1
  have hc : ∀ j u, c[j]? = some u → w.cell? (ad.add (i.toNat * 1 + j)) = some u := hc0
  obtain ⟨A0, c0, rfl, l0, g0⟩ := hK
  exact ⟨ad, A0, c0, e, by have hq := hc 0 _ rfl; rwa [Nat.mul_one, Nat.add_zero] at hq, l0, g0⟩

def rd_L2 (xs : List (List (List Int))) (i : Int) : (List (List Int)) := xs.getD i.toNat ([] : List (List Int))
theorem at_L2 {w : World} {A : Option Addr} {n : Nat} {xs : List (List (List Int))} (h : Kd.C (Kd.slice 27 (Kd.slice 5 (Kd.int .u8))) w A n xs) (i : Int) (h0 : 0 ≤ i) (h1 : i < n) : ∃ ad A0 c0, A = some ad ∧ w.cell? (ad.add i.toNat) = some (.slice A0 (rd_L2 xs i).length c0) ∧ (rd_L2 xs i).length ≤ c0 ∧ (Kd.slice 5 (Kd.int .u8)).C w A0 (rd_L2 xs i).length (rd_L2 xs i) := by
  obtain ⟨ad, c, e, _, hK, hc0⟩ := Kd.C_get h ([] : List (List Int)) i h0 h1
  have hc : ∀ j u, c[j]? = some u → w.cell? (ad.add (i.toNat * 1 + j)) = some u := hc0
  obtain ⟨A0, c0, rfl, l0, g0⟩ := hK
  exact ⟨ad, A0, c0, e, by have hq := hc 0 _ rfl; rwa [Nat.mul_one, Nat.add_zero] at hq, l0, g0⟩

/-! #### struct type 106 -/
structure S106 where
  f0 : Int
  f1 : Int
def z106 : S106 := ⟨(0 : Int), (0 : Int)⟩
def k106 : Kd S106 := Kd.iso (Kd.pair (Kd.int .u64) (Kd.int .u64)) (fun x : S106 => (x.f0, x.f1))
theorem k106_open {w : World} {x : S106} {cs : List Value} (h : k106.K w x cs) : cs = [.int .u64 x.f0, .int .u64 x.f1] := by
  obtain ⟨_, _, rfl, rfl, rfl⟩ := h
  exact rfl
theorem k106_openM {w : World} {base : Nat} {ok : Nat → Prop} {x : S106} {cs : List Value} (h : k106.M w base ok x cs) : cs = [.int .u64 x.f0, .int .u64 x.f1] := by
  obtain ⟨_, _, rfl, rfl, rfl⟩ := h
  exact rfl
theorem k106_mk (w : World) (x : S106)  : k106.K w x [.int .u64 x.f0, .int .u64 x.f1] := ⟨[.int .u64 x.f0], [.int .u64 x.f1], rfl, rfl, rfl⟩
theorem k106_mkM (w : World) (base : Nat) (ok : Nat → Prop) (x : S106)  : k106.M w base ok x [.int .u64 x.f0, .int .u64 x.f1] := ⟨[.int .u64 x.f0], [.int .u64 x.f1], rfl, rfl, rfl⟩
theorem k106_mkF (W : World) (ok : Nat → Prop) (x : S106) : Kd.FK k106 W ok x [.int .u64 x.f0, .int .u64 x.f1] := fun W2 _ => k106_mk W2 x
def rd_T106 (xs : List S106) (i : Int) : S106 := xs.getD i.toNat z106
theorem at_T106 {w : World} {A : Option Addr} {n : Nat} {xs : List S106} (h : Kd.C k106 w A n xs) (i : Int) (h0 : 0 ≤ i) (h1 : i < n) : ∃ ad , A = some ad ∧ w.cell? (ad.add (i.toNat * 2)) = some (.int .u64 (rd_T106 xs i).f0) ∧ w.cell? ⟨(ad.add (i.toNat * 2)).block, (ad.add (i.toNat * 2)).off + 1, none⟩ = some (.int .u64 (rd_T106 xs i).f1) := by
  obtain ⟨ad, c, e, _, hK, hc0⟩ := Kd.C_get h z106 i h0 h1
  have hc : ∀ j u, c[j]? = some u → w.cell? (ad.add (i.toNat * 2 + j)) = some u := hc0
  obtain rfl := k106_open hK
  exact ⟨ad, e, hc 0 _ rfl, by rw [← add_field _ _ 1 (by omega)]; exact hc 1 _ rfl⟩

end Go.Proofs.YtkmdkmlgahfcpaaDoor.M

namespace Go.Proofs.YtkmdkmlgahfcpaaDoor.M
open Go.RowKit Go.Proofs.YtkmdkmlgahfcpaaDoorW.PrintWords Go.Proofs.YtkmdkmlgahfcpaaDoorW.PrintLast Go.Proofs.YtkmdkmlgahfcpaaDoorW.PrintMore
attribute [local go_sem] max2_int min2_int max_two min_two max_three min_three max_four min_four   -- for this text's walks alone
set_option linter.unusedVariables false
set_option linter.unusedSimpArgs false

/-! ### bits_Len64: function 109 -/
def bits_Len64.f (a0 : Int) : Option (Int) := if 0 ≤ a0 ∧ a0 ≤ 18446744073709551615 then some (Lib.bitLen a0.toNat : Int) else none
theorem bits_Len64.calls (a0 : Int) (r : Int) (w : World) (h : bits_Len64.f a0 = some r) :
    Calls Tryd.prog 109 #[.int .u64 a0] w fun e w' => e = .returned (.int .i64 r) ∧ Drawn0 w w' := by
  unfold bits_Len64.f at h
  split at h
  · rename_i hc
    injection h with h
    subst h
    refine (Tryd.bits_Len64 a0 w hc.1 hc.2).mono ?_
    rintro e w' ⟨rfl, rfl⟩
    exact ⟨rfl, Drawn0.refl _⟩
  · cases h

end Go.Proofs.YtkmdkmlgahfcpaaDoor.M

namespace Go.Proofs.YtkmdkmlgahfcpaaDoor.M
open Go.RowKit Go.Proofs.YtkmdkmlgahfcpaaDoorW.PrintWords Go.Proofs.YtkmdkmlgahfcpaaDoorW.PrintLast Go.Proofs.YtkmdkmlgahfcpaaDoorW.PrintMore
attribute [local go_sem] max2_int min2_int max_two min_two max_three min_three max_four min_four   -- for this text's walks alone
set_option linter.unusedVariables false
set_option linter.unusedSimpArgs false

/-! ### compact_Decompose: function 108 -/
def compact_Decompose.f (a0 : Int) (a1 : Int) : Option (Int × Int) := if a0 = 0 then (some (0, a1)) else ((bits_Len64.f (Go.bits .xor .u64 (IntKind.u64.wrap (a0 - 1)) a1)).bind fun t153 => (if 0 ≤ (IntKind.u64.wrap (wrap64 (t153 - 1))) then (some (Go.bits .and .u64 (Go.bits .xor .u64 18446744073709551615 (IntKind.u64.wrap (a0 - 1))) (IntKind.u64.wrap ((shl .u64 1 (IntKind.u64.wrap (wrap64 (t153 - 1)))) - 1)), Go.bits .and .u64 a1 (IntKind.u64.wrap ((shl .u64 1 (IntKind.u64.wrap (wrap64 (t153 - 1)))) - 1)))) else (none)))
set_option maxHeartbeats 8000000 in
set_option maxRecDepth 100000 in
theorem compact_Decompose.calls (a0 : Int) (a1 : Int) (r1 : Int) (r2 : Int) (w : World) (h : compact_Decompose.f a0 a1 = some (r1, r2)) :
    Calls Tryd.prog 108 #[.int .u64 a0, .int .u64 a1] w fun e w' => e = .returned (.tuple #[.int .u64 r1, .int .u64 r2]) ∧ Drawn0 w w' := by
  have H : (if a0 = 0 then (some (0, a1)) else ((bits_Len64.f (Go.bits .xor .u64 (IntKind.u64.wrap (a0 - 1)) a1)).bind fun t153 => (if 0 ≤ (IntKind.u64.wrap (wrap64 (t153 - 1))) then (some (Go.bits .and .u64 (Go.bits .xor .u64 18446744073709551615 (IntKind.u64.wrap (a0 - 1))) (IntKind.u64.wrap ((shl .u64 1 (IntKind.u64.wrap (wrap64 (t153 - 1)))) - 1)), Go.bits .and .u64 a1 (IntKind.u64.wrap ((shl .u64 1 (IntKind.u64.wrap (wrap64 (t153 - 1)))) - 1)))) else (none)))) = some (r1, r2) := h
  clear h
  by_cases c3 : a0 = 0
  · rw [if_pos c3] at H
    have c3b0 : (a0 == 0) = true := beq_iff_eq.mpr c3
    have c3b1 : (a0 != 0) = false := bne_eq_false_iff_eq.mpr c3
    clear c3
    simp only [Option.some.injEq, Prod.mk.injEq] at H
    obtain ⟨rfl, rfl⟩ := H
    go_enter Tryd.func108, Tryd.ntmps108
    go_wp2
    go_ret2
    exact ⟨by first | rfl | (simp; done) | (simp [*]; done), by repeat (first | exact Drawn0.refl _ | apply Drawn0.step)⟩
  · rw [if_neg c3] at H
    have c3b0 : (a0 == 0) = false := beq_eq_false_iff_ne.mpr c3
    have c3b1 : (a0 != 0) = true := bne_iff_ne.mpr c3
    replace H := Option.bind_eq_some_iff.mp H
    obtain ⟨t153, A40, H⟩ := H
    replace H : (if 0 ≤ (IntKind.u64.wrap (wrap64 (t153 - 1))) then (some (Go.bits .and .u64 (Go.bits .xor .u64 18446744073709551615 (IntKind.u64.wrap (a0 - 1))) (IntKind.u64.wrap ((shl .u64 1 (IntKind.u64.wrap (wrap64 (t153 - 1)))) - 1)), Go.bits .and .u64 a1 (IntKind.u64.wrap ((shl .u64 1 (IntKind.u64.wrap (wrap64 (t153 - 1)))) - 1)))) else (none)) = some (r1, r2) := H
    have A4 := Aside0.mk A40
    clear A40
    obtain ⟨ji5, hji5⟩ : ∃ j_ : Int, (IntKind.u64.wrap (wrap64 (t153 - 1))) = j_ := ⟨_, rfl⟩
    replace H : (if 0 ≤ (ji5) then (some (Go.bits .and .u64 (Go.bits .xor .u64 18446744073709551615 (IntKind.u64.wrap (a0 - 1))) (IntKind.u64.wrap ((shl .u64 1 (ji5)) - 1)), Go.bits .and .u64 a1 (IntKind.u64.wrap ((shl .u64 1 (ji5)) - 1)))) else (none)) = some (r1, r2) := by first | (rw [hji5] at H; exact H) | (simp only [hji5] at H ⊢; exact H)
    (try rw [hji5] at A4)
    by_cases c6 : 0 ≤ (ji5)
    · rw [if_pos c6] at H
      have c6b0 := eq_true c6
      have c6b1 : decide (0 ≤ (ji5)) = true := decide_eq_true c6
      clear c6
      obtain ⟨ji7, hji7⟩ : ∃ j_ : Int, (shl .u64 1 (ji5)) = j_ := ⟨_, rfl⟩
      replace H : (some (Go.bits .and .u64 (Go.bits .xor .u64 18446744073709551615 (IntKind.u64.wrap (a0 - 1))) (IntKind.u64.wrap ((ji7) - 1)), Go.bits .and .u64 a1 (IntKind.u64.wrap ((ji7) - 1)))) = some (r1, r2) := by first | (rw [hji7] at H; exact H) | (simp only [hji7] at H ⊢; exact H)
      (try rw [hji7] at A4)
      have hji7_ : (IntKind.u64.wrap (1 * 2 ^ min (ji5).toNat 64)) = ji7 := hji7
      have hji7z : (ji5) ≤ 64 → (IntKind.u64.wrap (1 * 2 ^ (ji5).toNat)) = ji7 := shl_small hji7
      have hji7u : (IntKind.u64.wrap (2 ^ min (ji5).toNat 64)) = ji7 := by have h_ := hji7_; rw [Int.one_mul] at h_; exact h_
      have hji7v : (ji5) ≤ 64 → (IntKind.u64.wrap (2 ^ (ji5).toNat)) = ji7 := fun hle_ => by have h_ := hji7z hle_; rw [Int.one_mul] at h_; exact h_
      simp only [Option.some.injEq, Prod.mk.injEq] at H
      obtain ⟨rfl, rfl⟩ := H
      go_enter Tryd.func108, Tryd.ntmps108
      go_wp2_with (first | ((with_reducible refine gate_callee (f := 109) rfl ?_); refine goesL_ (some 17) rfl rfl Tryd.func109 (by kernel_rfl) rfl #[.int .u64 (Go.bits .xor .u64 (IntKind.u64.wrap (a0 - 1)) a1)] rfl (by (try simp only [List.map_toArray, List.map_cons, List.map_nil]); first | done | rfl | (simp only [List.length_drop, List.length_take]; rfl)) ?_; (with_reducible refine (bits_Len64.calls (Go.bits .xor .u64 (IntKind.u64.wrap (a0 - 1)) a1) t153 _ A4.out).mono ?_); rintro e w' ⟨rfl, ⟨nd, rfl⟩⟩; refine ⟨_, rfl, ?_⟩))
      go_ret2
      exact ⟨by first | rfl | (simp; done) | (simp only [← hji5, ← hji7] <;> (first | rfl | simp)) | (simp [*]; done), by repeat (first | exact Drawn0.refl _ | apply Drawn0.step)⟩
    · rw [if_neg c6] at H
      exact absurd H (by simp)

end Go.Proofs.YtkmdkmlgahfcpaaDoor.M

namespace Go.Proofs.YtkmdkmlgahfcpaaDoor.M
open Go.RowKit Go.Proofs.YtkmdkmlgahfcpaaDoorW.PrintWords Go.Proofs.YtkmdkmlgahfcpaaDoorW.PrintLast Go.Proofs.YtkmdkmlgahfcpaaDoorW.PrintMore
attribute [local go_sem] max2_int min2_int max_two min_two max_three min_three max_four min_four   -- for this text's walks alone
set_option linter.unusedVariables false
set_option linter.unusedSimpArgs false

/-! ### laws_zzFits2: function 12 -/
def laws_zzFits2.l0 : Nat → List (List Int) → Int → Int → Option (Bool)
  | 0, _, _, _ => none
  | k + 1, x8, x9, x10 => if x10 < x9 then (if 0 ≤ x10 then (if x10 < (x8.length : Int) then (if ((rd_L1 x8 x10).length : Int) > 2147483647 then (some false) else (laws_zzFits2.l0 k x8 x9 (wrap64 (x10 + 1)))) else (none)) else (none)) else (some true)
def laws_zzFits2.f (k : Nat) (l0 : List (List Int)) : Option (Bool) := if (l0.length : Int) > 2147483647 then (some false) else (laws_zzFits2.l0 k l0 (l0.length : Int) 0)
theorem laws_zzFits2.mono_l : ∀ k, (∀ y0 y1 y2, LeO (laws_zzFits2.l0 k y0 y1 y2) (laws_zzFits2.l0 (k + 1) y0 y1 y2))
  | 0 => fun _ _ _ r h => by simp [laws_zzFits2.l0] at h
  | k + 1 => by
    have ih0 := laws_zzFits2.mono_l k
    · intro y0 y1 y2
      unfold laws_zzFits2.l0
      repeat' first
      | (with_reducible exact ih0 _ _ _)
      | (with_reducible exact LeO.refl _)
      | (with_reducible exact LeO.none _)
      | (with_reducible refine LeO.ite ?_ ?_)
      | (with_reducible refine LeO.bind ?_ (fun _ => ?_))
      | exact ih0 _ _ _
      | exact LeO.none _
      | refine LeO.ite ?_ ?_
      | refine LeO.bind ?_ (fun _ => ?_)
theorem laws_zzFits2.mono : ∀ a0 k, LeO (laws_zzFits2.f k a0) (laws_zzFits2.f (k + 1) a0) := by
  intro a0 k
  have ih0 := laws_zzFits2.mono_l k
  unfold laws_zzFits2.f
  repeat' first
      | (with_reducible exact ih0 _ _ _)
      | (with_reducible exact LeO.refl _)
      | (with_reducible exact LeO.none _)
      | (with_reducible refine LeO.ite ?_ ?_)
      | (with_reducible refine LeO.bind ?_ (fun _ => ?_))
      | exact ih0 _ _ _
      | exact LeO.none _
      | refine LeO.ite ?_ ?_
      | refine LeO.bind ?_ (fun _ => ?_)
set_option maxHeartbeats 8000000 in
set_option maxRecDepth 100000 in
theorem laws_zzFits2.calls (k : Nat) (A0 : Option Addr) (c0 : Nat) (l0 : List (List Int)) (r : Bool) (w : World) (hr0 : Kd.C (Kd.slice 5 (Kd.int .u8)) w A0 l0.length l0) (hc0 : l0.length ≤ c0) (h : laws_zzFits2.f k l0 = some r) :
    Calls Tryd.prog 12 #[.slice A0 l0.length c0] w fun e w' => e = .returned (.bool r) ∧ Drawn0 w w' := by
  have HR0 := Aside0.mk hr0
  have HC0 := Aside0.mk hc0
  clear hr0 hc0
  have H : (if (l0.length : Int) > 2147483647 then (some false) else (laws_zzFits2.l0 k l0 (l0.length : Int) 0)) = some r := h
  clear h
  by_cases c2 : (l0.length : Int) > 2147483647
  · rw [if_pos c2] at H
    have c2b0 : decide (2147483647 < (l0.length : Int)) = true := decide_eq_true c2
    have c2b1 : decide (2147483647 < l0.length) = true := decide_eq_true (by omega)
    clear c2
    obtain rfl := Option.some.inj H
    go_enter Tryd.func12, Tryd.ntmps12
    go_wp2
    go_ret
    exact ⟨by first | rfl | (simp; done) | (simp [*]; done), by repeat (first | exact Drawn0.refl _ | apply Drawn0.step)⟩
  · rw [if_neg c2] at H
    have c2b0 : decide (2147483647 < (l0.length : Int)) = false := decide_eq_false c2
    have c2b1 : decide (2147483647 < l0.length) = false := decide_eq_false (by omega)
    clear c2
    have H' := Aside0.mk H
    clear H
    go_enter Tryd.func12, Tryd.ntmps12
    go_wp2
    go_loopg [10] k (fun kq v10 w' => ∃ (x10_1 : Int), v10 = .int .i64 x10_1 ∧ Aside0 (laws_zzFits2.l0 kq l0 (l0.length : Int) x10_1 = some r) ∧ Aside0 (kq ≤ k) ∧ Drawn0 w w')
    case atStart => exact ⟨(0), (by first | rfl | (simp; done) | (simp [*]; done)), H', ⟨Nat.le_refl _⟩, by repeat (first | exact Drawn0.refl _ | apply Drawn0.step)⟩
    case round =>
      clear H'
      try clear c1
      try clear c2
      try clear c2b0
      try clear c2b1
      try clear p2
      obtain ⟨x10_1, rfl, HA, HK1, ⟨m1, rfl⟩⟩ := hrel
      cases gk with
      | zero => exact absurd HA.out (by simp [laws_zzFits2.l0])
      | succ k1 =>
        have H := HA.out
        clear HA
        simp only [laws_zzFits2.l0] at H
        by_cases c3 : x10_1 < (l0.length : Int)
        · rw [if_pos c3] at H
          have c3b0 : decide (x10_1 < (l0.length : Int)) = true := decide_eq_true c3
          clear c3
          by_cases c4 : 0 ≤ x10_1
          · rw [if_pos c4] at H
            have c4b0 : decide (0 ≤ x10_1) = true := decide_eq_true c4
            clear c4
            by_cases c5 : x10_1 < (l0.length : Int)
            · rw [if_pos c5] at H
              have c5b0 : decide (x10_1 < (l0.length : Int)) = true := decide_eq_true c5
              clear c5
              by_cases c6 : ((rd_L1 l0 x10_1).length : Int) > 2147483647
              · rw [if_pos c6] at H
                have c6b0 : decide (2147483647 < ((rd_L1 l0 x10_1).length : Int)) = true := decide_eq_true c6
                have c6b1 : decide (2147483647 < (rd_L1 l0 x10_1).length) = true := decide_eq_true (by omega)
                clear c6
                obtain rfl := Option.some.inj H
                have p101 : 0 ≤ (x10_1 : Int) := of_decide_eq_true (by first | (with_reducible assumption) | assumption)
                have q101 : x10_1 < (l0.length : Int) := of_decide_eq_true (by first | (with_reducible assumption) | assumption)
                obtain ⟨ad101, A101_0, c101_0, e101, hx101_0, hl101_0, hi101_0⟩ := at_L1 HR0.out x10_1 p101 q101
                cases e101
                have HR101_0 := Aside0.mk hi101_0
                have HC101_0 := Aside0.mk hl101_0
                clear hi101_0 hl101_0
                replace p101 := eq_true p101
                replace q101 := eq_true q101
                go_wp2
                go_ret
                exact ⟨by first | rfl | (simp; done) | (simp [*]; done), by repeat (first | exact Drawn0.refl _ | apply Drawn0.step)⟩
              · rw [if_neg c6] at H
                have c6b0 : decide (2147483647 < ((rd_L1 l0 x10_1).length : Int)) = false := decide_eq_false c6
                have c6b1 : decide (2147483647 < (rd_L1 l0 x10_1).length) = false := decide_eq_false (by omega)
                clear c6
                have H' := Aside0.mk H
                clear H
                have p101 : 0 ≤ (x10_1 : Int) := of_decide_eq_true (by first | (with_reducible assumption) | assumption)
                have q101 : x10_1 < (l0.length : Int) := of_decide_eq_true (by first | (with_reducible assumption) | assumption)
                obtain ⟨ad101, A101_0, c101_0, e101, hx101_0, hl101_0, hi101_0⟩ := at_L1 HR0.out x10_1 p101 q101
                cases e101
                have HR101_0 := Aside0.mk hi101_0
                have HC101_0 := Aside0.mk hl101_0
                clear hi101_0 hl101_0
                replace p101 := eq_true p101
                replace q101 := eq_true q101
                go_wp2
                go_roundg k1
                case measure => have := HK1.out; omega
                case rel => exact ⟨(wrap64 (x10_1 + 1)), (by first | rfl | (simp; done) | (simp [*]; done)), H', ⟨by have := HK1.out; omega⟩, by repeat (first | exact Drawn0.refl _ | apply Drawn0.step)⟩
            · rw [if_neg c5] at H
              exact absurd H (by simp)
          · rw [if_neg c4] at H
            exact absurd H (by simp)
        · rw [if_neg c3] at H
          have c3b0 : decide (x10_1 < (l0.length : Int)) = false := decide_eq_false c3
          clear c3
          obtain rfl := Option.some.inj H
          go_wp2
          go_ret
          exact ⟨by first | rfl | (simp; done) | (simp [*]; done), by repeat (first | exact Drawn0.refl _ | apply Drawn0.step)⟩

end Go.Proofs.YtkmdkmlgahfcpaaDoor.M

namespace Go.Proofs.YtkmdkmlgahfcpaaDoor.M
open Go.RowKit Go.Proofs.YtkmdkmlgahfcpaaDoorW.PrintWords Go.Proofs.YtkmdkmlgahfcpaaDoorW.PrintLast Go.Proofs.YtkmdkmlgahfcpaaDoorW.PrintMore
attribute [local go_sem] max2_int min2_int max_two min_two max_three min_three max_four min_four   -- for this text's walks alone
set_option linter.unusedVariables false
set_option linter.unusedSimpArgs false

/-! ### laws_logSmall: function 13 -/
def laws_logSmall.l0 : Nat → List (List Int) → List (List Int) → Int → Int → Option (Bool)
  | 0, _, _, _, _ => none
  | k + 1, x0, x5, x6, x7 => if x7 < x6 then (if 0 ≤ x7 then (if x7 < (x5.length : Int) then (if ((rd_L1 x5 x7).length : Int) > 5000 then (some false) else (laws_logSmall.l0 k x0 x5 x6 (wrap64 (x7 + 1)))) else (none)) else (none)) else (some (decide ((x0.length : Int) ≤ 300)))
def laws_logSmall.f (k : Nat) (l0 : List (List Int)) : Option (Bool) := laws_logSmall.l0 k l0 l0 (l0.length : Int) 0
theorem laws_logSmall.mono_l : ∀ k, (∀ y0 y1 y2 y3, LeO (laws_logSmall.l0 k y0 y1 y2 y3) (laws_logSmall.l0 (k + 1) y0 y1 y2 y3))
  | 0 => fun _ _ _ _ r h => by simp [laws_logSmall.l0] at h
  | k + 1 => by
    have ih0 := laws_logSmall.mono_l k
    · intro y0 y1 y2 y3
      unfold laws_logSmall.l0
      repeat' first
      | (with_reducible exact ih0 _ _ _ _)
      | (with_reducible exact LeO.refl _)
      | (with_reducible exact LeO.none _)
      | (with_reducible refine LeO.ite ?_ ?_)
      | (with_reducible refine LeO.bind ?_ (fun _ => ?_))
      | exact ih0 _ _ _ _
      | exact LeO.none _
      | refine LeO.ite ?_ ?_
      | refine LeO.bind ?_ (fun _ => ?_)
theorem laws_logSmall.mono : ∀ a0 k, LeO (laws_logSmall.f k a0) (laws_logSmall.f (k + 1) a0) := by
  intro a0 k
  have ih0 := laws_logSmall.mono_l k
  unfold laws_logSmall.f
  repeat' first
      | (with_reducible exact ih0 _ _ _ _)
      | (with_reducible exact LeO.refl _)
      | (with_reducible exact LeO.none _)
      | (with_reducible refine LeO.ite ?_ ?_)
      | (with_reducible refine LeO.bind ?_ (fun _ => ?_))
      | exact ih0 _ _ _ _
      | exact LeO.none _
      | refine LeO.ite ?_ ?_
      | refine LeO.bind ?_ (fun _ => ?_)
set_option maxHeartbeats 8000000 in
set_option maxRecDepth 100000 in
theorem laws_logSmall.calls (k : Nat) (A0 : Option Addr) (c0 : Nat) (l0 : List (List Int)) (r : Bool) (w : World) (hr0 : Kd.C (Kd.slice 5 (Kd.int .u8)) w A0 l0.length l0) (hc0 : l0.length ≤ c0) (h : laws_logSmall.f k l0 = some r) :
    Calls Tryd.prog 13 #[.slice A0 l0.length c0] w fun e w' => e = .returned (.bool r) ∧ Drawn0 w w' := by
  have HR0 := Aside0.mk hr0
  have HC0 := Aside0.mk hc0
  clear hr0 hc0
  have H : (laws_logSmall.l0 k l0 l0 (l0.length : Int) 0) = some r := h
  clear h
  have H' := Aside0.mk H
  clear H
  go_enter Tryd.func13, Tryd.ntmps13
  go_wp2
  go_loopg [7] k (fun kq v7 w' => ∃ (x7_1 : Int), v7 = .int .i64 x7_1 ∧ Aside0 (laws_logSmall.l0 kq l0 l0 (l0.length : Int) x7_1 = some r) ∧ Aside0 (kq ≤ k) ∧ Drawn0 w w')
  case atStart => exact ⟨(0), (by first | rfl | (simp; done) | (simp [*]; done)), H', ⟨Nat.le_refl _⟩, by repeat (first | exact Drawn0.refl _ | apply Drawn0.step)⟩
  case round =>
    clear H'
    try clear c1
    obtain ⟨x7_1, rfl, HA, HK1, ⟨m1, rfl⟩⟩ := hrel
    cases gk with
    | zero => exact absurd HA.out (by simp [laws_logSmall.l0])
    | succ k1 =>
      have H := HA.out
      clear HA
      simp only [laws_logSmall.l0] at H
      by_cases c2 : x7_1 < (l0.length : Int)
      · rw [if_pos c2] at H
        have c2b0 : decide (x7_1 < (l0.length : Int)) = true := decide_eq_true c2
        clear c2
        by_cases c3 : 0 ≤ x7_1
        · rw [if_pos c3] at H
          have c3b0 : decide (0 ≤ x7_1) = true := decide_eq_true c3
          clear c3
          by_cases c4 : x7_1 < (l0.length : Int)
          · rw [if_pos c4] at H
            have c4b0 : decide (x7_1 < (l0.length : Int)) = true := decide_eq_true c4
            clear c4
            by_cases c5 : ((rd_L1 l0 x7_1).length : Int) > 5000
            · rw [if_pos c5] at H
              have c5b0 : decide (5000 < ((rd_L1 l0 x7_1).length : Int)) = true := decide_eq_true c5
              have c5b1 : decide (5000 < (rd_L1 l0 x7_1).length) = true := decide_eq_true (by omega)
              clear c5
              obtain rfl := Option.some.inj H
              have p102 : 0 ≤ (x7_1 : Int) := of_decide_eq_true (by first | (with_reducible assumption) | assumption)
              have q102 : x7_1 < (l0.length : Int) := of_decide_eq_true (by first | (with_reducible assumption) | assumption)
              obtain ⟨ad102, A102_0, c102_0, e102, hx102_0, hl102_0, hi102_0⟩ := at_L1 HR0.out x7_1 p102 q102
              cases e102
              have HR102_0 := Aside0.mk hi102_0
              have HC102_0 := Aside0.mk hl102_0
              clear hi102_0 hl102_0
              replace p102 := eq_true p102
              replace q102 := eq_true q102
              go_wp2
              go_ret
              exact ⟨by first | rfl | (simp; done) | (simp [*]; done), by repeat (first | exact Drawn0.refl _ | apply Drawn0.step)⟩
            · rw [if_neg c5] at H
              have c5b0 : decide (5000 < ((rd_L1 l0 x7_1).length : Int)) = false := decide_eq_false c5
              have c5b1 : decide (5000 < (rd_L1 l0 x7_1).length) = false := decide_eq_false (by omega)
              clear c5
              have H' := Aside0.mk H
              clear H
              have p102 : 0 ≤ (x7_1 : Int) := of_decide_eq_true (by first | (with_reducible assumption) | assumption)
              have q102 : x7_1 < (l0.length : Int) := of_decide_eq_true (by first | (with_reducible assumption) | assumption)
              obtain ⟨ad102, A102_0, c102_0, e102, hx102_0, hl102_0, hi102_0⟩ := at_L1 HR0.out x7_1 p102 q102
              cases e102
              have HR102_0 := Aside0.mk hi102_0
              have HC102_0 := Aside0.mk hl102_0
              clear hi102_0 hl102_0
              replace p102 := eq_true p102
              replace q102 := eq_true q102
              go_wp2
              go_roundg k1
              case measure => have := HK1.out; omega
              case rel => exact ⟨(wrap64 (x7_1 + 1)), (by first | rfl | (simp; done) | (simp [*]; done)), H', ⟨by have := HK1.out; omega⟩, by repeat (first | exact Drawn0.refl _ | apply Drawn0.step)⟩
          · rw [if_neg c4] at H
            exact absurd H (by simp)
        · rw [if_neg c3] at H
          exact absurd H (by simp)
      · rw [if_neg c2] at H
        have c2b0 : decide (x7_1 < (l0.length : Int)) = false := decide_eq_false c2
        clear c2
        obtain rfl := Option.some.inj H
        go_wp2
        go_ret
        exact ⟨by first | rfl | (simp; done) | (simp [*]; done), by repeat (first | exact Drawn0.refl _ | apply Drawn0.step)⟩

end Go.Proofs.YtkmdkmlgahfcpaaDoor.M

namespace Go.Proofs.YtkmdkmlgahfcpaaDoor.M
open Go.RowKit Go.Proofs.YtkmdkmlgahfcpaaDoorW.PrintWords Go.Proofs.YtkmdkmlgahfcpaaDoorW.PrintLast Go.Proofs.YtkmdkmlgahfcpaaDoorW.PrintMore
attribute [local go_sem] max2_int min2_int max_two min_two max_three min_three max_four min_four   -- for this text's walks alone
set_option linter.unusedVariables false
set_option linter.unusedSimpArgs false

/-! ### impl_word: function 89 -/
mutual
def impl_word.j0 : Nat → Int → Int → Bool → Option (List Int)
  | 0, _, _, _ => none
  | k + 1, x0, x1, x12 => if x12 = true then (impl_word.j1 k x0 8) else (impl_word.j1 k x0 x1)
def impl_word.j1 : Nat → Int → Int → Option (List Int)
  | 0, _, _ => none
  | k + 1, x0, x1 => if 0 ≤ x1 then (if (x1 : Int).toNat ≤ 281474976710656 then ((some (List.replicate (x1 : Int).toNat 0 : List Int)).bind fun y103 => (impl_word.l0 k x0 x1 y103 (y103.length : Int) 0)) else (none)) else (none)
def impl_word.l0 : Nat → Int → Int → List Int → Int → Int → Option (List Int)
  | 0, _, _, _, _, _ => none
  | k + 1, x0, x1, x5, x16, x17 => if x17 < x16 then (if 0 ≤ (wrap64 (8 * x17)) then (if 0 ≤ (wrap64 ((wrap64 (x1 - 1)) - x17)) then (if (wrap64 ((wrap64 (x1 - 1)) - x17)) < (x5.length : Int) then (impl_word.l0 k x0 x1 (x5.set ((wrap64 ((wrap64 (x1 - 1)) - x17)) : Int).toNat ((shr .u64 x0 (wrap64 (8 * x17))) % 256)) x16 (wrap64 (x17 + 1))) else (none)) else (none)) else (none)) else (some x5)
end
def impl_word.f (k : Nat) (a0 : Int) (a1 : Int) : Option (List Int) := if a1 < 1 then (impl_word.j0 k a0 a1 true) else (impl_word.j0 k a0 a1 (decide (a1 > 8)))
theorem impl_word.mono_l : ∀ k, (∀ y0 y1 y2, LeO (impl_word.j0 k y0 y1 y2) (impl_word.j0 (k + 1) y0 y1 y2)) ∧ (∀ y0 y1, LeO (impl_word.j1 k y0 y1) (impl_word.j1 (k + 1) y0 y1)) ∧ (∀ y0 y1 y2 y3 y4, LeO (impl_word.l0 k y0 y1 y2 y3 y4) (impl_word.l0 (k + 1) y0 y1 y2 y3 y4))
  | 0 => ⟨fun _ _ _ r h => by simp [impl_word.j0] at h, fun _ _ r h => by simp [impl_word.j1] at h, fun _ _ _ _ _ r h => by simp [impl_word.l0] at h⟩
  | k + 1 => by
    obtain ⟨ih0, ih1, ih2⟩ := impl_word.mono_l k
    refine ⟨?_, ?_, ?_⟩
    · intro y0 y1 y2
      unfold impl_word.j0
      repeat' first
      | (with_reducible exact ih0 _ _ _)
      | (with_reducible exact ih1 _ _)
      | (with_reducible exact ih2 _ _ _ _ _)
      | (with_reducible exact LeO.refl _)
      | (with_reducible exact LeO.none _)
      | (with_reducible refine LeO.ite ?_ ?_)
      | (with_reducible refine LeO.bind ?_ (fun _ => ?_))
      | exact ih0 _ _ _
      | exact ih1 _ _
      | exact ih2 _ _ _ _ _
      | exact LeO.none _
      | refine LeO.ite ?_ ?_
      | refine LeO.bind ?_ (fun _ => ?_)
    · intro y0 y1
      unfold impl_word.j1
      repeat' first
      | (with_reducible exact ih0 _ _ _)
      | (with_reducible exact ih1 _ _)
      | (with_reducible exact ih2 _ _ _ _ _)
      | (with_reducible exact LeO.refl _)
      | (with_reducible exact LeO.none _)
      | (with_reducible refine LeO.ite ?_ ?_)
      | (with_reducible refine LeO.bind ?_ (fun _ => ?_))
      | exact ih0 _ _ _
      | exact ih1 _ _
      | exact ih2 _ _ _ _ _
      | exact LeO.none _
      | refine LeO.ite ?_ ?_
      | refine LeO.bind ?_ (fun _ => ?_)
    · intro y0 y1 y2 y3 y4
      unfold impl_word.l0
      repeat' first
      | (with_reducible exact ih0 _ _ _)
      | (with_reducible exact ih1 _ _)
      | (with_reducible exact ih2 _ _ _ _ _)
      | (with_reducible exact LeO.refl _)
      | (with_reducible exact LeO.none _)
      | (with_reducible refine LeO.ite ?_ ?_)
      | (with_reducible refine LeO.bind ?_ (fun _ => ?_))
      | exact ih0 _ _ _
      | exact ih1 _ _
      | exact ih2 _ _ _ _ _
      | exact LeO.none _
      | refine LeO.ite ?_ ?_
      | refine LeO.bind ?_ (fun _ => ?_)
theorem impl_word.mono : ∀ a0 a1 k, LeO (impl_word.f k a0 a1) (impl_word.f (k + 1) a0 a1) := by
  intro a0 a1 k
  obtain ⟨ih0, ih1, ih2⟩ := impl_word.mono_l k
  unfold impl_word.f
  repeat' first
      | (with_reducible exact ih0 _ _ _)
      | (with_reducible exact ih1 _ _)
      | (with_reducible exact ih2 _ _ _ _ _)
      | (with_reducible exact LeO.refl _)
      | (with_reducible exact LeO.none _)
      | (with_reducible refine LeO.ite ?_ ?_)
      | (with_reducible refine LeO.bind ?_ (fun _ => ?_))
      | exact ih0 _ _ _
      | exact ih1 _ _
      | exact ih2 _ _ _ _ _
      | exact LeO.none _
      | refine LeO.ite ?_ ?_
      | refine LeO.bind ?_ (fun _ => ?_)
set_option maxHeartbeats 8000000 in
set_option maxRecDepth 100000 in
theorem impl_word.calls (k : Nat) (a0 : Int) (a1 : Int) (r : List Int) (w : World) (h : impl_word.f k a0 a1 = some r) :
    Calls Tryd.prog 89 #[.int .u64 a0, .int .i64 a1] w fun e w' => ∃ v0_ : Value, e = .returned (v0_) ∧ Kd.R (Kd.int .u8) 5 w' w.heap.size (fun _ => True) v0_ r ∧ Below w.heap.size w w' := by
  have HB := Aside0.mk (Below.refl w.heap.size w)
  have H : (if a1 < 1 then (impl_word.j0 k a0 a1 true) else (impl_word.j0 k a0 a1 (decide (a1 > 8)))) = some r := h
  clear h
  have HC3 := Aside0.mk H
  clear H
  go_enter Tryd.func89, Tryd.ntmps89
  go_upto_region 1 with (fail)
  go_cut [12] (fun v12 wc => ∃ (kq : Nat) (x12_2 : Bool), v12 = .bool x12_2 ∧ Aside0 (impl_word.j0 kq a0 a1 x12_2 = some r) ∧ Aside0 (kq ≤ k) ∧ Aside0 (Below w.heap.size w wc))
  case first =>
    have H := HC3.out
    clear HC3
    by_cases c4 : a1 < 1
    · rw [if_pos c4] at H
      have c4b0 : decide (a1 < 1) = true := decide_eq_true c4
      clear c4
      (first | rw [c4b0] | (simp only [i64_w, i32_w]; rw [c4b0]) | skip)
      have H' := Aside0.mk H
      clear H
      go_wp2
      go_meet
      case rel => exact ⟨_, (true), (by first | rfl | (simp; done) | (simp [*]; done)), H', ⟨by first | omega | exact Nat.le_refl _⟩, ⟨by repeat (first | (with_reducible first | exact HB.out | apply below_alloc | apply pw_below_drewN | apply below_drew1) | exact HB.out)⟩⟩
    · rw [if_neg c4] at H
      have c4b0 : decide (a1 < 1) = false := decide_eq_false c4
      clear c4
      (first | rw [c4b0] | (simp only [i64_w, i32_w]; rw [c4b0]) | skip)
      have H' := Aside0.mk H
      clear H
      go_wp2
      go_meet
      case rel => exact ⟨_, (decide (a1 > 8)), (by first | rfl | (simp; done) | (simp [*]; done)), H', ⟨by first | omega | exact Nat.le_refl _⟩, ⟨by repeat (first | (with_reducible first | exact HB.out | apply below_alloc | apply pw_below_drewN | apply below_drew1) | exact HB.out)⟩⟩
  case rest =>
    clear HC3
    try clear p2
    try clear c4
    try clear c4b0
    obtain ⟨kq, x12_2, rfl, HA, HJ2, HB⟩ := hcut
    cases kq with
    | zero => exact absurd HA.out (by simp [impl_word.j0])
    | succ kj2 =>
      have H := HA.out
      clear HA
      simp only [impl_word.j0] at H
      have HC5 := Aside0.mk H
      clear H
      go_upto_if 12 with (fail)
      go_cut [1] (fun v1 wc => ∃ (kq : Nat) (x1_4 : Int), v1 = .int .i64 x1_4 ∧ Aside0 (impl_word.j1 kq a0 x1_4 = some r) ∧ Aside0 (kq ≤ kj2) ∧ Aside0 (Below w.heap.size w wc))
      case first =>
        have H := HC5.out
        clear HC5
        by_cases c6 : x12_2 = true
        · subst c6
          have H1 : (impl_word.j1 kj2 a0 8) = some r := by rw [if_pos rfl] at H; exact H
          clear H
          have H := H1
          clear H1
          have H' := Aside0.mk H
          clear H
          go_wp2
          go_meet
          case rel => exact ⟨_, (8), (by first | rfl | (simp; done) | (simp [*]; done)), H', ⟨by have := HJ2.out; first | omega | exact Nat.le_refl _⟩, ⟨by repeat (first | (with_reducible first | exact HB.out | apply below_alloc | apply pw_below_drewN | apply below_drew1) | exact HB.out)⟩⟩
        · replace c6 := Bool.eq_false_iff.mpr c6
          subst c6
          have H1 : (impl_word.j1 kj2 a0 a1) = some r := by rw [if_neg (show ¬ (false = true) by decide)] at H; exact H
          clear H
          have H := H1
          clear H1
          have H' := Aside0.mk H
          clear H
          go_wp2
          go_meet
          case rel => exact ⟨_, (a1), (by first | rfl | (simp; done) | (simp [*]; done)), H', ⟨by have := HJ2.out; first | omega | exact Nat.le_refl _⟩, ⟨by repeat (first | (with_reducible first | exact HB.out | apply below_alloc | apply pw_below_drewN | apply below_drew1) | exact HB.out)⟩⟩
      case rest =>
        clear HC5
        try clear p2
        try clear c4
        try clear c4b0
        try clear c6
        try clear p2
        obtain ⟨kq, x1_4, rfl, HA, HJ4, HB⟩ := hcut
        cases kq with
        | zero => exact absurd HA.out (by simp [impl_word.j1])
        | succ kj4 =>
          have H := HA.out
          clear HA
          simp only [impl_word.j1] at H
          by_cases c7 : 0 ≤ x1_4
          · rw [if_pos c7] at H
            have c7b0 := eq_true c7
            have c7b1 : decide (0 ≤ x1_4) = true := decide_eq_true c7
            clear c7
            by_cases c8 : (x1_4 : Int).toNat ≤ 281474976710656
            · rw [if_pos c8] at H
              have c8b0 := eq_true c8
              have c8b1 : decide ((x1_4 : Int).toNat ≤ 281474976710656) = true := decide_eq_true c8
              clear c8
              obtain ⟨y103, hy103⟩ : ∃ y_ : List Int, y_ = (List.replicate (x1_4 : Int).toNat 0) := ⟨_, rfl⟩
              replace H : (impl_word.l0 kj4 a0 x1_4 y103 (y103.length : Int) 0) = some r := by first | (rw [hy103]; with_reducible exact H) | (have H2_ := (Option.bind_some _ _).symm.trans H; rw [hy103]; with_reducible exact H2_) | (have H2_ := (Option.bind_some _ _).symm.trans H; with_reducible exact H2_) | with_reducible exact H | (rw [hy103]; exact H) | exact H
              have Ny103 := Aside0.mk hy103
              clear hy103
              have H' := Aside0.mk H
              clear H
              go_wp2_with (first | ((with_reducible refine gate_dst (N := 14) rfl ?_); refine Kd.R_make (Kd.int .u8) _ 5 rfl (N := 14) rfl 27 _ _ rfl x1_4 rfl rfl Tryd.underlying27 (.int .u8 0) 1 info5 rfl (by decide) (by omega) 0 (ok := fun _ => True) (okp := fun _ => True) rfl (fun _ hk => hk) trivial (of_decide_eq_true (by first | (with_reducible assumption) | assumption)) (Nat.le_trans (Nat.mul_le_mul_right _ (of_decide_eq_true (by first | (with_reducible assumption) | assumption) : x1_4.toNat ≤ 281474976710656)) (by omega)) (Below.refl _ _) (Nat.le_refl _) ?_; intro v104 w9 ho10 hb hg_ hnew_; clear hg_ hnew_; (first | rw [← Ny103.out] at ho10 | (simp only [Int.reduceToNat] at ho10; rw [← Ny103.out] at ho10)); have n0_ := Aside0.mk (Kd.R_lower ho10 (below_size (by repeat (first | (with_reducible first | exact HB.out | apply below_alloc | apply pw_below_drewN | apply below_drew1) | exact HB.out)))); have n1_ := Aside0.mk (below_step (by repeat (first | (with_reducible first | exact HB.out | apply below_alloc | apply pw_below_drewN | apply below_drew1) | exact HB.out)) hb); clear HB; have HO105 := n0_; have HB := n1_; clear n0_ n1_; clear hb ho10; obtain ⟨Ao11, co11, eo11⟩ := Kd.R_slice HO105.out; subst eo11))
              go_loopg [17] kj4 (fun kq v17 w' => ∃ (x5_3 : List Int) (x17_3 : Int), v17 = .int .i64 x17_3 ∧ Aside0 (impl_word.l0 kq a0 x1_4 x5_3 (y103.length : Int) x17_3 = some r) ∧ Aside0 (kq ≤ kj4) ∧ Aside0 (Kd.R (Kd.int .u8) 5 w' w.heap.size (fun _ => True) (.slice Ao11 y103.length co11) x5_3) ∧ Aside0 (Below w.heap.size w w'))
              case atStart => exact ⟨(y103), (0), (by first | rfl | (simp; done) | (simp [*]; done)), H', ⟨Nat.le_refl _⟩, ⟨by (with_reducible repeat (first | apply Kd.R_alloc | apply Kd.R_drewN | apply Kd.R_drew)); exact HO105.out⟩, ⟨by repeat (first | (with_reducible first | exact HB.out | apply below_alloc | apply pw_below_drewN | apply below_drew1) | exact HB.out)⟩⟩
              case round =>
                clear H'
                try clear p2
                try clear c4
                try clear c4b0
                try clear c6
                try clear c7
                try clear c7b0
                try clear c7b1
                try clear c8
                try clear c8b0
                try clear c8b1
                try clear p2
                obtain ⟨x5_3, x17_3, rfl, HA, HK3, HO_5, HB⟩ := hrel
                have hl5_3 := (Kd.R_reads' HO_5.out).1
                rw [hl5_3] at HO_5
                (try simp only [hl5_3])
                cases gk with
                | zero => exact absurd HA.out (by simp [impl_word.l0])
                | succ k3 =>
                  have H := HA.out
                  clear HA
                  simp only [impl_word.l0] at H
                  by_cases c12 : x17_3 < (y103.length : Int)
                  · rw [if_pos c12] at H
                    have c12b0 : decide (x17_3 < (y103.length : Int)) = true := decide_eq_true c12
                    (try (have c12b0hl5_3 := c12b0; rw [hl5_3] at c12b0hl5_3))
                    clear c12
                    obtain ⟨ji13, hji13⟩ : ∃ j_ : Int, (wrap64 (8 * x17_3)) = j_ := ⟨_, rfl⟩
                    replace H : (if 0 ≤ (ji13) then (if 0 ≤ (wrap64 ((wrap64 (x1_4 - 1)) - x17_3)) then (if (wrap64 ((wrap64 (x1_4 - 1)) - x17_3)) < (x5_3.length : Int) then (impl_word.l0 k3 a0 x1_4 (x5_3.set ((wrap64 ((wrap64 (x1_4 - 1)) - x17_3)) : Int).toNat ((shr .u64 a0 (ji13)) % 256)) (y103.length : Int) (wrap64 (x17_3 + 1))) else (none)) else (none)) else (none)) = some r := by first | (rw [hji13] at H; exact H) | (simp only [hji13] at H ⊢; exact H)
                    have hji13w : (IntKind.i64.wrap (8 * x17_3)) = ji13 := (i64_w _).trans hji13
                    by_cases c14 : 0 ≤ (ji13)
                    · rw [if_pos c14] at H
                      have c14b0 := eq_true c14
                      have c14b1 : decide (0 ≤ (ji13)) = true := decide_eq_true c14
                      clear c14
                      obtain ⟨ji15, hji15⟩ : ∃ j_ : Int, (shr .u64 a0 (ji13)) = j_ := ⟨_, rfl⟩
                      replace H : (if 0 ≤ (wrap64 ((wrap64 (x1_4 - 1)) - x17_3)) then (if (wrap64 ((wrap64 (x1_4 - 1)) - x17_3)) < (x5_3.length : Int) then (impl_word.l0 k3 a0 x1_4 (x5_3.set ((wrap64 ((wrap64 (x1_4 - 1)) - x17_3)) : Int).toNat ((ji15) % 256)) (y103.length : Int) (wrap64 (x17_3 + 1))) else (none)) else (none)) = some r := by first | (rw [hji15] at H; exact H) | (simp only [hji15] at H ⊢; exact H)
                      have hji15_ : (a0 / 2 ^ min (ji13).toNat 64) = ji15 := hji15
                      have hji15z : (ji13) ≤ 64 → (a0 / 2 ^ (ji13).toNat) = ji15 := shr_small hji15
                      obtain ⟨ji16, hji16⟩ : ∃ j_ : Int, (wrap64 ((wrap64 (x1_4 - 1)) - x17_3)) = j_ := ⟨_, rfl⟩
                      replace H : (if 0 ≤ (ji16) then (if (ji16) < (x5_3.length : Int) then (impl_word.l0 k3 a0 x1_4 (x5_3.set ((ji16) : Int).toNat ((ji15) % 256)) (y103.length : Int) (wrap64 (x17_3 + 1))) else (none)) else (none)) = some r := by first | (rw [hji16] at H; exact H) | (simp only [hji16] at H ⊢; exact H)
                      have hji16w : (IntKind.i64.wrap ((wrap64 (x1_4 - 1)) - x17_3)) = ji16 := (i64_w _).trans hji16
                      by_cases c17 : 0 ≤ (ji16)
                      · rw [if_pos c17] at H
                        have c17b0 : decide (0 ≤ (ji16)) = true := decide_eq_true c17
                        clear c17
                        by_cases c18 : (ji16) < (x5_3.length : Int)
                        · rw [if_pos c18] at H
                          have c18b0 : decide ((ji16) < (x5_3.length : Int)) = true := decide_eq_true c18
                          (try (have c18b0hl5_3 := c18b0; rw [hl5_3] at c18b0hl5_3))
                          clear c18
                          obtain ⟨y106, hy106⟩ : ∃ y_ : List Int, y_ = (x5_3.set ((ji16) : Int).toNat ((ji15) % 256)) := ⟨_, rfl⟩
                          replace H : (impl_word.l0 k3 a0 x1_4 y106 (y103.length : Int) (wrap64 (x17_3 + 1))) = some r := by first | (rw [hy106]; with_reducible exact H) | (have H2_ := (Option.bind_some _ _).symm.trans H; rw [hy106]; with_reducible exact H2_) | (have H2_ := (Option.bind_some _ _).symm.trans H; with_reducible exact H2_) | with_reducible exact H | (rw [hy106]; exact H) | exact H
                          have Ny106 := Aside0.mk hy106
                          clear hy106
                          have H' := Aside0.mk H
                          clear H
                          have p19 : 0 ≤ ((ji16) : Int) := of_decide_eq_true (by first | (with_reducible assumption) | assumption)
                          have q19 : ((ji16) : Int) < ((x5_3.length : Int) : Int) := of_decide_eq_true (by first | (with_reducible assumption) | assumption)
                          obtain ⟨go19, co19, eo19, gb19, gl19, cl19, HG19⟩ := Kd.R_form HO_5.out (by omega)
                          (first | cases eo19 | (injection eo19 with ea_ en_ ec_; (first | subst ea_ | (injection ea_ with ea_; subst ea_)); subst ec_; clear en_))
                          have GB19 := Aside0.mk gb19
                          have GG19 := Aside0.mk HG19
                          clear gb19 gl19 HG19
                          obtain ⟨hx19_0, hf19_0⟩ := Kd.R_celln 0 HO_5.out ((ji16) : Int) p19 q19
                          replace p19 := eq_true p19
                          replace q19 := eq_true q19
                          have HP20 := Kd.R_putg HO_5.out ((ji16) : Int) ((ji15) % 256)
                          go_wp2_with (first | ((with_reducible refine gate_store (t := 5) (p := 30) rfl ?_); refine store_event (t := 5) (p := 30) (v := ?vo_w21) (w1 := (wr.setCell ⟨go19, ((ji16) : Int).toNat, none⟩ (.int .u8 ((ji15) % 256)))) ?hg ?ho ?hn ?hr ?_; (case ho => rfl); (case hg => rfl); (case hn => rfl); (case hr => first | (go_simp; done) | (go_simp; rfl)); intro w21 hw; have hg : wr.grownBy w21 (some go19) := (by rw [hw]; exact HP20.2); have hp_ : Kd.R (Kd.int .u8) 5 w21 w.heap.size (fun _ => True) (.slice (some ⟨go19, 0, none⟩) x5_3.length co11) y106 := (by rw [hw, Ny106.out]; exact HP20.1); clear HP20; have n0_ := Aside0.mk (hp_); have n1_ := Aside0.mk ((by rw [hw]; exact below_set (HB.out) GB19.out : Below w.heap.size w w21)); clear HO_5; clear HB; have HO_5 := n0_; have HB := n1_; clear n0_ n1_; clear hg hw hp_))
                          (try simp only [← hl5_3])
                          go_roundg k3
                          case measure => have := HJ2.out; have := HJ4.out; have := HK3.out; omega
                          case rel => exact ⟨(y106), (wrap64 (x17_3 + 1)), (by first | rfl | (simp; done) | (simp [*]; done)), H', ⟨by have := HJ2.out; have := HJ4.out; have := HK3.out; omega⟩, ⟨by (try simp only [hl5_3]); (with_reducible repeat (first | apply Kd.R_alloc | apply Kd.R_drewN | apply Kd.R_drew)); exact HO_5.out⟩, ⟨by repeat (first | (with_reducible first | exact HB.out | apply below_alloc | apply pw_below_drewN | apply below_drew1) | exact HB.out)⟩⟩
                        · rw [if_neg c18] at H
                          exact absurd H (by simp)
                      · rw [if_neg c17] at H
                        exact absurd H (by simp)
                    · rw [if_neg c14] at H
                      exact absurd H (by simp)
                  · rw [if_neg c12] at H
                    have c12b0 : decide (x17_3 < (y103.length : Int)) = false := decide_eq_false c12
                    (try (have c12b0hl5_3 := c12b0; rw [hl5_3] at c12b0hl5_3))
                    clear c12
                    obtain rfl := Option.some.inj H
                    go_wp2
                    go_ret
                    exact ⟨_, by first | rfl | (simp [errW_none, errW_some] <;> rfl) | (simp [*, errW_none, errW_some] <;> rfl), by (with_reducible repeat (first | apply Kd.R_alloc | apply Kd.R_drewN | apply Kd.R_drew)); exact HO_5.out, by repeat (first | (with_reducible first | exact HB.out | apply below_alloc | apply pw_below_drewN | apply below_drew1) | exact HB.out)⟩
            · rw [if_neg c8] at H
              exact absurd H (by simp)
          · rw [if_neg c7] at H
            exact absurd H (by simp)

end Go.Proofs.YtkmdkmlgahfcpaaDoor.M

namespace Go.Proofs.YtkmdkmlgahfcpaaDoor.M
open Go.RowKit Go.Proofs.YtkmdkmlgahfcpaaDoorW.PrintWords Go.Proofs.YtkmdkmlgahfcpaaDoorW.PrintLast Go.Proofs.YtkmdkmlgahfcpaaDoorW.PrintMore
attribute [local go_sem] max2_int min2_int max_two min_two max_three min_three max_four min_four   -- for this text's walks alone
set_option linter.unusedVariables false
set_option linter.unusedSimpArgs false

/-! ### impl_toy_EmptyRoot: function 137 -/
def impl_toy_EmptyRoot.f (k : Nat) (a0_0 : Int) (a0_1 : Int) (a0_2 : Int) (a0_3 : Int) (a0_4 : Int) (a0_5 : Int) : Option (List Int) := if a0_0 = 1 then ((impl_word.f k a0_3 a0_2).bind fun t169 => (some t169)) else (some (([2] : List Int)))
theorem impl_toy_EmptyRoot.mono : ∀ a0 a1 a2 a3 a4 a5 k, LeO (impl_toy_EmptyRoot.f k a0 a1 a2 a3 a4 a5) (impl_toy_EmptyRoot.f (k + 1) a0 a1 a2 a3 a4 a5) := by
  intro a0 a1 a2 a3 a4 a5 k
  unfold impl_toy_EmptyRoot.f
  repeat' first
      | (with_reducible exact impl_word.mono _ _ _)
      | (with_reducible exact LeO.refl _)
      | (with_reducible exact LeO.none _)
      | (with_reducible refine LeO.ite ?_ ?_)
      | (with_reducible refine LeO.bind ?_ (fun _ => ?_))
      | exact impl_word.mono _ _ _
      | exact LeO.none _
      | refine LeO.ite ?_ ?_
      | refine LeO.bind ?_ (fun _ => ?_)
set_option maxHeartbeats 8000000 in
set_option maxRecDepth 100000 in
theorem impl_toy_EmptyRoot.calls (k : Nat) (a0_0 : Int) (a0_1 : Int) (a0_2 : Int) (a0_3 : Int) (a0_4 : Int) (a0_5 : Int) (r : List Int) (w : World) (h : impl_toy_EmptyRoot.f k a0_0 a0_1 a0_2 a0_3 a0_4 a0_5 = some r) :
    Calls Tryd.prog 137 #[.agg #[.int .i64 a0_0, .int .i64 a0_1, .int .i64 a0_2, .int .u64 a0_3, .int .u64 a0_4, .int .u64 a0_5]] w fun e w' => ∃ v0_ : Value, e = .returned (v0_) ∧ Kd.R (Kd.int .u8) 5 w' w.heap.size (fun _ => True) v0_ r ∧ Below w.heap.size w w' := by
  have hu85 := Tryd.underlying85
  have HB := Aside0.mk (Below.refl w.heap.size w)
  have H : (if a0_0 = 1 then ((impl_word.f k a0_3 a0_2).bind fun t169 => (some t169)) else (some (([2] : List Int)))) = some r := h
  clear h
  by_cases c2 : a0_0 = 1
  · rw [if_pos c2] at H
    have c2b0 : (a0_0 == 1) = true := beq_iff_eq.mpr c2
    have c2b1 : (a0_0 != 1) = false := bne_eq_false_iff_eq.mpr c2
    clear c2
    replace H := Option.bind_eq_some_iff.mp H
    obtain ⟨t169, A30, H⟩ := H
    replace H : (some t169) = some r := H
    have A3 := Aside0.mk A30
    clear A30
    obtain rfl := Option.some.inj H
    go_enter Tryd.func137, Tryd.ntmps137
    go_wp2_with (first | ((with_reducible refine gate_dst (N := 1) rfl ?_); refine box_event ?hg (N := 1) ?hd (cs := #[.int .i64 a0_0, .int .i64 a0_1, .int .i64 a0_2, .int .u64 a0_3, .int .u64 a0_4, .int .u64 a0_5]) (t := 85) ?hr ?_; (case hd => rfl); (case hg => rfl); (case hr => first | (go_simp; done) | (go_simp; rfl)); intro gb168 hg w4 hbox hb; have n0_ := Aside0.mk (below_step (by repeat (first | (with_reducible first | exact HB.out | apply below_alloc | apply pw_below_drewN | apply below_drew1) | exact HB.out)) hb); have n1_ := Aside0.mk (hbox); have n2_ := Aside0.mk ((by rw [hg]; exact (below_size (by repeat (first | (with_reducible first | exact HB.out | apply below_alloc | apply pw_below_drewN | apply below_drew1) | exact HB.out))) : w.heap.size ≤ gb168)); have n3_ := Aside0.mk ((by rw [hg]; exact (below_size (by repeat (first | (with_reducible first | exact HB.out | apply below_alloc | apply pw_below_drewN | apply below_drew1) | exact HB.out))) : w.heap.size ≤ gb168)); clear HB; have HB := n0_; have BK168 := n1_; have GW168 := n2_; have GE168 := n3_; clear n0_ n1_ n2_ n3_; clear hb hbox hg; have hcz5_0 : w4.cell? ⟨gb168, 0, none⟩ = some (.int .i64 a0_0) := (blk_cell BK168.out 0).trans rfl; have hcz5_1 : w4.cell? ⟨gb168, 1, none⟩ = some (.int .i64 a0_1) := (blk_cell BK168.out 1).trans rfl; have hcz5_2 : w4.cell? ⟨gb168, 2, none⟩ = some (.int .i64 a0_2) := (blk_cell BK168.out 2).trans rfl; have hcz5_3 : w4.cell? ⟨gb168, 3, none⟩ = some (.int .u64 a0_3) := (blk_cell BK168.out 3).trans rfl; have hcz5_4 : w4.cell? ⟨gb168, 4, none⟩ = some (.int .u64 a0_4) := (blk_cell BK168.out 4).trans rfl; have hcz5_5 : w4.cell? ⟨gb168, 5, none⟩ = some (.int .u64 a0_5) := (blk_cell BK168.out 5).trans rfl; have hfz5_0 := blk_frozen BK168.out 0; have hfz5_1 := blk_frozen BK168.out 1; have hfz5_2 := blk_frozen BK168.out 2; have hfz5_3 := blk_frozen BK168.out 3; have hfz5_4 := blk_frozen BK168.out 4; have hfz5_5 := blk_frozen BK168.out 5) | ((with_reducible refine gate_callee (f := 89) rfl ?_); refine goesL_ (some 13) rfl rfl Tryd.func89 (by kernel_rfl) rfl #[.int .u64 a0_3, .int .i64 a0_2] rfl (by (try simp only [List.map_toArray, List.map_cons, List.map_nil]); first | done | rfl | (simp only [List.length_drop, List.length_take]; rfl)) ?_; (with_reducible refine (impl_word.calls k a0_3 a0_2 t169 _ A3.out).mono ?_); rintro e w6 ⟨v170, rfl, ho0, hb⟩; refine ⟨_, rfl, ?_⟩; have n0_ := Aside0.mk (Kd.R_lower ho0 (below_size (by repeat (first | (with_reducible first | exact HB.out | apply below_alloc | apply pw_below_drewN | apply below_drew1 | refine below_set ?_ GE168.out) | exact HB.out)))); have n1_ := Aside0.mk (blk_below (g := gb168) (o := .cells #[.int .i64 a0_0, .int .i64 a0_1, .int .i64 a0_2, .int .u64 a0_3, .int .u64 a0_4, .int .u64 a0_5] 85 (0, 0)) (by (with_reducible repeat (first | refine blk_drewN ?_ _ | refine blk_drew ?_ | refine blk_alloc ?_ _)); exact BK168.out) hb); have n2_ := Aside0.mk (below_step (by repeat (first | (with_reducible first | exact HB.out | apply below_alloc | apply pw_below_drewN | apply below_drew1 | refine below_set ?_ GE168.out) | exact HB.out)) hb); clear BK168; clear HB; have HO171 := n0_; have BK168 := n1_; have HB := n2_; clear n0_ n1_ n2_; (try clear hb); (try clear hb2); (try clear hk); (try clear hi); (try clear ho0)))
    go_ret
    exact ⟨_, by first | rfl | (simp [errW_none, errW_some] <;> rfl) | (simp [*, errW_none, errW_some] <;> rfl), by (with_reducible repeat (first | apply Kd.R_alloc | apply Kd.R_drewN | apply Kd.R_drew)); exact HO171.out, by repeat (first | (with_reducible first | exact HB.out | apply below_alloc | apply pw_below_drewN | apply below_drew1 | refine below_set ?_ GE168.out) | exact HB.out)⟩
  · rw [if_neg c2] at H
    have c2b0 : (a0_0 == 1) = false := beq_eq_false_iff_ne.mpr c2
    have c2b1 : (a0_0 != 1) = true := bne_iff_ne.mpr c2
    obtain ⟨y172, hy172⟩ : ∃ y_ : List Int, y_ = (([2] : List Int)) := ⟨_, rfl⟩
    replace H : (some y172) = some r := by first | (rw [hy172]; with_reducible exact H) | (have H2_ := (Option.bind_some _ _).symm.trans H; rw [hy172]; with_reducible exact H2_) | (have H2_ := (Option.bind_some _ _).symm.trans H; with_reducible exact H2_) | with_reducible exact H | (rw [hy172]; exact H) | exact H
    have Ny172 := Aside0.mk hy172
    clear hy172
    obtain rfl := Option.some.inj H
    go_enter Tryd.func137, Tryd.ntmps137
    go_wp2_with (first | ((with_reducible refine gate_dst (N := 1) rfl ?_); refine box_event ?hg (N := 1) ?hd (cs := #[.int .i64 a0_0, .int .i64 a0_1, .int .i64 a0_2, .int .u64 a0_3, .int .u64 a0_4, .int .u64 a0_5]) (t := 85) ?hr ?_; (case hd => rfl); (case hg => rfl); (case hr => first | (go_simp; done) | (go_simp; rfl)); intro gb168 hg w7 hbox hb; have n0_ := Aside0.mk (below_step (by repeat (first | (with_reducible first | exact HB.out | apply below_alloc | apply pw_below_drewN | apply below_drew1) | exact HB.out)) hb); have n1_ := Aside0.mk (hbox); have n2_ := Aside0.mk ((by rw [hg]; exact (below_size (by repeat (first | (with_reducible first | exact HB.out | apply below_alloc | apply pw_below_drewN | apply below_drew1) | exact HB.out))) : w.heap.size ≤ gb168)); have n3_ := Aside0.mk ((by rw [hg]; exact (below_size (by repeat (first | (with_reducible first | exact HB.out | apply below_alloc | apply pw_below_drewN | apply below_drew1) | exact HB.out))) : w.heap.size ≤ gb168)); clear HB; have HB := n0_; have BK168 := n1_; have GW168 := n2_; have GE168 := n3_; clear n0_ n1_ n2_ n3_; clear hb hbox hg; have hcz8_0 : w7.cell? ⟨gb168, 0, none⟩ = some (.int .i64 a0_0) := (blk_cell BK168.out 0).trans rfl; have hcz8_1 : w7.cell? ⟨gb168, 1, none⟩ = some (.int .i64 a0_1) := (blk_cell BK168.out 1).trans rfl; have hcz8_2 : w7.cell? ⟨gb168, 2, none⟩ = some (.int .i64 a0_2) := (blk_cell BK168.out 2).trans rfl; have hcz8_3 : w7.cell? ⟨gb168, 3, none⟩ = some (.int .u64 a0_3) := (blk_cell BK168.out 3).trans rfl; have hcz8_4 : w7.cell? ⟨gb168, 4, none⟩ = some (.int .u64 a0_4) := (blk_cell BK168.out 4).trans rfl; have hcz8_5 : w7.cell? ⟨gb168, 5, none⟩ = some (.int .u64 a0_5) := (blk_cell BK168.out 5).trans rfl; have hfz8_0 := blk_frozen BK168.out 0; have hfz8_1 := blk_frozen BK168.out 1; have hfz8_2 := blk_frozen BK168.out 2; have hfz8_3 := blk_frozen BK168.out 3; have hfz8_4 := blk_frozen BK168.out 4; have hfz8_5 := blk_frozen BK168.out 5) | ((with_reducible refine gate_dst (N := 14) rfl ?_); refine Kd.R_lit (Kd.int .u8) _ 5 ?hg (N := 14) ?hd (xs := ([2] : List Int)) (inner := [.int .u8 2]) (ok := fun _ => True) (okp := fun _ => True) ?hr ?hp (fun _ hk => hk) trivial (Below.refl _ _) (Nat.le_refl _) (by simp) ?_; (case hd => rfl); (case hg => rfl); (case hr => first | (go_simp; done) | (go_simp; rfl)); (case hp => exact (Reps.one (show Kd.M (Kd.int .u8) _ _ _ 2 [.int .u8 2] from rfl) (Reps.none _ _))); intro v173 w9 ho10 hb hg_ hnew_; clear hg_ hnew_; (first | rw [← Ny172.out] at ho10 | (simp only [Int.reduceToNat] at ho10; rw [← Ny172.out] at ho10)); have n0_ := Aside0.mk (Kd.R_lower ho10 (below_size (by repeat (first | (with_reducible first | exact HB.out | apply below_alloc | apply pw_below_drewN | apply below_drew1 | refine below_set ?_ GE168.out) | exact HB.out)))); have n1_ := Aside0.mk (blk_below (g := gb168) (o := .cells #[.int .i64 a0_0, .int .i64 a0_1, .int .i64 a0_2, .int .u64 a0_3, .int .u64 a0_4, .int .u64 a0_5] 85 (0, 0)) (by (with_reducible repeat (first | refine blk_drewN ?_ _ | refine blk_drew ?_ | refine blk_alloc ?_ _)); exact BK168.out) hb); have n2_ := Aside0.mk (below_step (by repeat (first | (with_reducible first | exact HB.out | apply below_alloc | apply pw_below_drewN | apply below_drew1 | refine below_set ?_ GE168.out) | exact HB.out)) hb); clear BK168; clear HB; have HO174 := n0_; have BK168 := n1_; have HB := n2_; clear n0_ n1_ n2_; clear hb ho10))
    go_ret
    exact ⟨_, by first | rfl | (simp [errW_none, errW_some] <;> rfl) | (simp [*, errW_none, errW_some] <;> rfl), by (with_reducible repeat (first | apply Kd.R_alloc | apply Kd.R_drewN | apply Kd.R_drew)); exact HO174.out, by repeat (first | (with_reducible first | exact HB.out | apply below_alloc | apply pw_below_drewN | apply below_drew1 | refine below_set ?_ GE168.out) | exact HB.out)⟩

end Go.Proofs.YtkmdkmlgahfcpaaDoor.M

namespace Go.Proofs.YtkmdkmlgahfcpaaDoor.M
open Go.RowKit Go.Proofs.YtkmdkmlgahfcpaaDoorW.PrintWords Go.Proofs.YtkmdkmlgahfcpaaDoorW.PrintLast Go.Proofs.YtkmdkmlgahfcpaaDoorW.PrintMore
attribute [local go_sem] max2_int min2_int max_two min_two max_three min_three max_four min_four   -- for this text's walks alone
set_option linter.unusedVariables false
set_option linter.unusedSimpArgs false

/-! ### impl_mixed: function 90 -/
def impl_mixed.l0 : Nat → Int → List Int → Int → Int → Option (Int)
  | 0, _, _, _, _ => none
  | k + 1, x0, x7, x8, x9 => if x9 < x8 then (if 0 ≤ x9 then (if x9 < (x7.length : Int) then (impl_mixed.l0 k (IntKind.u64.wrap ((Go.bits .xor .u64 x0 (IntKind.u64.wrap (rd x7 x9))) * 1099511628211)) x7 x8 (wrap64 (x9 + 1))) else (none)) else (none)) else (some x0)
def impl_mixed.f (k : Nat) (a0 : Int) (l1 : List Int) : Option (Int) := impl_mixed.l0 k a0 l1 (l1.length : Int) 0
theorem impl_mixed.mono_l : ∀ k, (∀ y0 y1 y2 y3, LeO (impl_mixed.l0 k y0 y1 y2 y3) (impl_mixed.l0 (k + 1) y0 y1 y2 y3))
  | 0 => fun _ _ _ _ r h => by simp [impl_mixed.l0] at h
  | k + 1 => by
    have ih0 := impl_mixed.mono_l k
    · intro y0 y1 y2 y3
      unfold impl_mixed.l0
      repeat' first
      | (with_reducible exact ih0 _ _ _ _)
      | (with_reducible exact LeO.refl _)
      | (with_reducible exact LeO.none _)
      | (with_reducible refine LeO.ite ?_ ?_)
      | (with_reducible refine LeO.bind ?_ (fun _ => ?_))
      | exact ih0 _ _ _ _
      | exact LeO.none _
      | refine LeO.ite ?_ ?_
      | refine LeO.bind ?_ (fun _ => ?_)
theorem impl_mixed.mono : ∀ a0 a1 k, LeO (impl_mixed.f k a0 a1) (impl_mixed.f (k + 1) a0 a1) := by
  intro a0 a1 k
  have ih0 := impl_mixed.mono_l k
  unfold impl_mixed.f
  repeat' first
      | (with_reducible exact ih0 _ _ _ _)
      | (with_reducible exact LeO.refl _)
      | (with_reducible exact LeO.none _)
      | (with_reducible refine LeO.ite ?_ ?_)
      | (with_reducible refine LeO.bind ?_ (fun _ => ?_))
      | exact ih0 _ _ _ _
      | exact LeO.none _
      | refine LeO.ite ?_ ?_
      | refine LeO.bind ?_ (fun _ => ?_)
set_option maxHeartbeats 8000000 in
set_option maxRecDepth 100000 in
theorem impl_mixed.calls (k : Nat) (a0 : Int) (A1 : Option Addr) (c1 : Nat) (l1 : List Int) (r : Int) (w : World) (hr1 : Kd.C (Kd.int .u8) w A1 l1.length l1) (hc1 : l1.length ≤ c1) (h : impl_mixed.f k a0 l1 = some r) :
    Calls Tryd.prog 90 #[.int .u64 a0, .slice A1 l1.length c1] w fun e w' => e = .returned (.int .u64 r) ∧ Drawn0 w w' := by
  have HR1 := Aside0.mk hr1
  have HC1 := Aside0.mk hc1
  clear hr1 hc1
  have H : (impl_mixed.l0 k a0 l1 (l1.length : Int) 0) = some r := h
  clear h
  have H' := Aside0.mk H
  clear H
  go_enter Tryd.func90, Tryd.ntmps90
  go_wp2
  go_loopg [0, 9] k (fun kq v0 v9 w' => ∃ (x0_1 : Int) (x9_1 : Int), v0 = .int .u64 x0_1 ∧ v9 = .int .i64 x9_1 ∧ Aside0 (impl_mixed.l0 kq x0_1 l1 (l1.length : Int) x9_1 = some r) ∧ Aside0 (kq ≤ k) ∧ Drawn0 w w')
  case atStart => exact ⟨(a0), (0), (by first | rfl | (simp; done) | (simp [*]; done)), (by first | rfl | (simp; done) | (simp [*]; done)), H', ⟨Nat.le_refl _⟩, by repeat (first | exact Drawn0.refl _ | apply Drawn0.step)⟩
  case round =>
    clear H'
    try clear c1
    try clear p2
    obtain ⟨x0_1, x9_1, rfl, rfl, HA, HK1, ⟨m1, rfl⟩⟩ := hrel
    cases gk with
    | zero => exact absurd HA.out (by simp [impl_mixed.l0])
    | succ k1 =>
      have H := HA.out
      clear HA
      simp only [impl_mixed.l0] at H
      by_cases c3 : x9_1 < (l1.length : Int)
      · rw [if_pos c3] at H
        have c3b0 : decide (x9_1 < (l1.length : Int)) = true := decide_eq_true c3
        clear c3
        by_cases c4 : 0 ≤ x9_1
        · rw [if_pos c4] at H
          have c4b0 : decide (0 ≤ x9_1) = true := decide_eq_true c4
          clear c4
          by_cases c5 : x9_1 < (l1.length : Int)
          · rw [if_pos c5] at H
            have c5b0 : decide (x9_1 < (l1.length : Int)) = true := decide_eq_true c5
            clear c5
            have H' := Aside0.mk H
            clear H
            have p107 : 0 ≤ (x9_1 : Int) := of_decide_eq_true (by first | (with_reducible assumption) | assumption)
            have q107 : x9_1 < (l1.length : Int) := of_decide_eq_true (by first | (with_reducible assumption) | assumption)
            obtain ⟨ad107, e107, hx107_0⟩ := Kd.at_int HR1.out x9_1 p107 q107
            cases e107
            replace p107 := eq_true p107
            replace q107 := eq_true q107
            go_wp2
            go_roundg k1
            case measure => have := HK1.out; omega
            case rel => exact ⟨(IntKind.u64.wrap ((Go.bits .xor .u64 x0_1 (IntKind.u64.wrap (rd l1 x9_1))) * 1099511628211)), (wrap64 (x9_1 + 1)), (by first | rfl | (simp; done) | (simp [*]; done)), (by first | rfl | (simp; done) | (simp [*]; done)), H', ⟨by have := HK1.out; omega⟩, by repeat (first | exact Drawn0.refl _ | apply Drawn0.step)⟩
          · rw [if_neg c5] at H
            exact absurd H (by simp)
        · rw [if_neg c4] at H
          exact absurd H (by simp)
      · rw [if_neg c3] at H
        have c3b0 : decide (x9_1 < (l1.length : Int)) = false := decide_eq_false c3
        clear c3
        obtain rfl := Option.some.inj H
        go_wp2
        go_ret
        exact ⟨by first | rfl | (simp; done) | (simp [*]; done), by repeat (first | exact Drawn0.refl _ | apply Drawn0.step)⟩

end Go.Proofs.YtkmdkmlgahfcpaaDoor.M

namespace Go.Proofs.YtkmdkmlgahfcpaaDoor.M
open Go.RowKit Go.Proofs.YtkmdkmlgahfcpaaDoorW.PrintWords Go.Proofs.YtkmdkmlgahfcpaaDoorW.PrintLast Go.Proofs.YtkmdkmlgahfcpaaDoorW.PrintMore
attribute [local go_sem] max2_int min2_int max_two min_two max_three min_three max_four min_four   -- for this text's walks alone
set_option linter.unusedVariables false
set_option linter.unusedSimpArgs false

/-! ### impl_toy_HashChildren: function 52 -/
def impl_toy_HashChildren.f (k : Nat) (a0_0 : Int) (a0_1 : Int) (a0_2 : Int) (a0_3 : Int) (a0_4 : Int) (a0_5 : Int) (l1 : List Int) (l2 : List Int) : Option (List Int) := if a0_0 = 1 then ((impl_mixed.f k a0_5 l1).bind fun t109 => ((impl_mixed.f k t109 (([255] : List Int))).bind fun t113 => ((impl_mixed.f k t113 l2).bind fun t114 => ((impl_word.f k t114 a0_2).bind fun t115 => (some t115))))) else ((some (([1] : List Int) : List Int)).bind fun y118 => ((impl_word.f k (IntKind.u64.wrap ((l1.length : Int))) 8).bind fun t121 => (if y118.length + t121.length < 140737488355328 then ((some (y118 ++ t121 : List Int)).bind fun y124 => (if y124.length + l1.length < 140737488355328 then ((some (y124 ++ l1 : List Int)).bind fun y127 => (if y127.length + l2.length < 140737488355328 then (some (y127 ++ l2)) else (none))) else (none))) else (none))))
theorem impl_toy_HashChildren.mono : ∀ a0 a1 a2 a3 a4 a5 a6 a7 k, LeO (impl_toy_HashChildren.f k a0 a1 a2 a3 a4 a5 a6 a7) (impl_toy_HashChildren.f (k + 1) a0 a1 a2 a3 a4 a5 a6 a7) := by
  intro a0 a1 a2 a3 a4 a5 a6 a7 k
  unfold impl_toy_HashChildren.f
  repeat' first
      | (with_reducible exact impl_mixed.mono _ _ _)
      | (with_reducible exact impl_word.mono _ _ _)
      | (with_reducible exact LeO.refl _)
      | (with_reducible exact LeO.none _)
      | (with_reducible refine LeO.ite ?_ ?_)
      | (with_reducible refine LeO.bind ?_ (fun _ => ?_))
      | exact impl_mixed.mono _ _ _
      | exact impl_word.mono _ _ _
      | exact LeO.none _
      | refine LeO.ite ?_ ?_
      | refine LeO.bind ?_ (fun _ => ?_)
def impl_toy_HashChildren.T2 : Bool × List (List Nat × List Nat) := (true, [([], []), ([0], [0]), ([1], [1]), ([], []), ([2, 3], [2, 3]), ([], []), ([4, 5, 4], [4, 5]), ([], []), ([6, 7, 6], [6, 7]), ([], []), ([9], [9]), ([10], [10]), ([8, 11, 8], [8, 11]), ([12, 12, 0, 1, 2, 3, 4, 5, 6, 7, 8, 9, 10, 11, 12], [12])])
def impl_toy_HashChildren.B2 : List Nat := [0, 1, 3, 0, 15, 0, 63, 0, 255, 0, 512, 1536, 4095, 8191]
theorem impl_toy_HashChildren.tab2 : rtab .any (opsOf Tryd.f52 2) = impl_toy_HashChildren.T2 := by kernel_rfl
theorem impl_toy_HashChildren.bits2 : waitsOk impl_toy_HashChildren.T2.2 impl_toy_HashChildren.B2 = true := by kernel_rfl
set_option maxHeartbeats 8000000 in
set_option maxRecDepth 100000 in
theorem impl_toy_HashChildren.calls (k : Nat) (a0_0 : Int) (a0_1 : Int) (a0_2 : Int) (a0_3 : Int) (a0_4 : Int) (a0_5 : Int) (A1 : Option Addr) (c1 : Nat) (l1 : List Int) (A2 : Option Addr) (c2 : Nat) (l2 : List Int) (r : List Int) (w : World) (hr1 : Kd.C (Kd.int .u8) w A1 l1.length l1) (hc1 : l1.length ≤ c1) (hr2 : Kd.C (Kd.int .u8) w A2 l2.length l2) (hc2 : l2.length ≤ c2) (h : impl_toy_HashChildren.f k a0_0 a0_1 a0_2 a0_3 a0_4 a0_5 l1 l2 = some r) :
    Calls Tryd.prog 52 #[.agg #[.int .i64 a0_0, .int .i64 a0_1, .int .i64 a0_2, .int .u64 a0_3, .int .u64 a0_4, .int .u64 a0_5], .slice A1 l1.length c1, .slice A2 l2.length c2] w fun e w' => ∃ v0_ : Value, e = .returned (v0_) ∧ Kd.R (Kd.int .u8) 5 w' w.heap.size (fun _ => True) v0_ r ∧ Below w.heap.size w w' := by
  have hu85 := Tryd.underlying85
  have HR1 := Aside0.mk hr1
  have HC1 := Aside0.mk hc1
  clear hr1 hc1
  have HR2 := Aside0.mk hr2
  have HC2 := Aside0.mk hc2
  clear hr2 hc2
  have HB := Aside0.mk (Below.refl w.heap.size w)
  have H : (if a0_0 = 1 then ((impl_mixed.f k a0_5 l1).bind fun t109 => ((impl_mixed.f k t109 (([255] : List Int))).bind fun t113 => ((impl_mixed.f k t113 l2).bind fun t114 => ((impl_word.f k t114 a0_2).bind fun t115 => (some t115))))) else ((some (([1] : List Int) : List Int)).bind fun y118 => ((impl_word.f k (IntKind.u64.wrap ((l1.length : Int))) 8).bind fun t121 => (if y118.length + t121.length < 140737488355328 then ((some (y118 ++ t121 : List Int)).bind fun y124 => (if y124.length + l1.length < 140737488355328 then ((some (y124 ++ l1 : List Int)).bind fun y127 => (if y127.length + l2.length < 140737488355328 then (some (y127 ++ l2)) else (none))) else (none))) else (none))))) = some r := h
  clear h
  by_cases c4 : a0_0 = 1
  · rw [if_pos c4] at H
    have c4b0 : (a0_0 == 1) = true := beq_iff_eq.mpr c4
    have c4b1 : (a0_0 != 1) = false := bne_eq_false_iff_eq.mpr c4
    clear c4
    replace H := Option.bind_eq_some_iff.mp H
    obtain ⟨t109, A50, H⟩ := H
    replace H : ((impl_mixed.f k t109 (([255] : List Int))).bind fun t113 => ((impl_mixed.f k t113 l2).bind fun t114 => ((impl_word.f k t114 a0_2).bind fun t115 => (some t115)))) = some r := H
    have A5 := Aside0.mk A50
    clear A50
    obtain ⟨y110, hy110⟩ : ∃ y_ : List Int, y_ = (([255] : List Int)) := ⟨_, rfl⟩
    replace H : ((impl_mixed.f k t109 y110).bind fun t113 => ((impl_mixed.f k t113 l2).bind fun t114 => ((impl_word.f k t114 a0_2).bind fun t115 => (some t115)))) = some r := by first | (rw [hy110]; with_reducible exact H) | (have H2_ := (Option.bind_some _ _).symm.trans H; rw [hy110]; with_reducible exact H2_) | (have H2_ := (Option.bind_some _ _).symm.trans H; with_reducible exact H2_) | with_reducible exact H | (rw [hy110]; exact H) | exact H
    have Ny110 := Aside0.mk hy110
    clear hy110
    replace H := Option.bind_eq_some_iff.mp H
    obtain ⟨t113, A60, H⟩ := H
    replace H : ((impl_mixed.f k t113 l2).bind fun t114 => ((impl_word.f k t114 a0_2).bind fun t115 => (some t115))) = some r := H
    have A6 := Aside0.mk A60
    clear A60
    replace H := Option.bind_eq_some_iff.mp H
    obtain ⟨t114, A70, H⟩ := H
    replace H : ((impl_word.f k t114 a0_2).bind fun t115 => (some t115)) = some r := H
    have A7 := Aside0.mk A70
    clear A70
    replace H := Option.bind_eq_some_iff.mp H
    obtain ⟨t115, A80, H⟩ := H
    replace H : (some t115) = some r := H
    have A8 := Aside0.mk A80
    clear A80
    obtain rfl := Option.some.inj H
    go_enter Tryd.func52, Tryd.ntmps52
    try go_wp2_with (first | ((with_reducible refine gate_dst (N := 3) rfl ?_); refine box_event ?hg (N := 3) ?hd (cs := #[.int .i64 a0_0, .int .i64 a0_1, .int .i64 a0_2, .int .u64 a0_3, .int .u64 a0_4, .int .u64 a0_5]) (t := 85) ?hr ?_; (case hd => rfl); (case hg => rfl); (case hr => first | (go_simp; done) | (go_simp; rfl)); intro gb108 hg w9 hbox hb; have n0_ := Aside0.mk (below_step (by repeat (first | (with_reducible first | exact HB.out | apply below_alloc | apply pw_below_drewN | apply below_drew1) | exact HB.out)) hb); have n1_ := Aside0.mk (hbox); have n2_ := Aside0.mk ((by rw [hg]; exact (below_size (by repeat (first | (with_reducible first | exact HB.out | apply below_alloc | apply pw_below_drewN | apply below_drew1) | exact HB.out))) : w.heap.size ≤ gb108)); have n3_ := Aside0.mk ((by rw [hg]; exact (below_size (by repeat (first | (with_reducible first | exact HB.out | apply below_alloc | apply pw_below_drewN | apply below_drew1) | exact HB.out))) : w.heap.size ≤ gb108)); clear HB; have HB := n0_; have BK108 := n1_; have GW108 := n2_; have GE108 := n3_; clear n0_ n1_ n2_ n3_; clear hb hbox hg; have hcz10_0 : w9.cell? ⟨gb108, 0, none⟩ = some (.int .i64 a0_0) := (blk_cell BK108.out 0).trans rfl; have hcz10_1 : w9.cell? ⟨gb108, 1, none⟩ = some (.int .i64 a0_1) := (blk_cell BK108.out 1).trans rfl; have hcz10_2 : w9.cell? ⟨gb108, 2, none⟩ = some (.int .i64 a0_2) := (blk_cell BK108.out 2).trans rfl; have hcz10_3 : w9.cell? ⟨gb108, 3, none⟩ = some (.int .u64 a0_3) := (blk_cell BK108.out 3).trans rfl; have hcz10_4 : w9.cell? ⟨gb108, 4, none⟩ = some (.int .u64 a0_4) := (blk_cell BK108.out 4).trans rfl; have hcz10_5 : w9.cell? ⟨gb108, 5, none⟩ = some (.int .u64 a0_5) := (blk_cell BK108.out 5).trans rfl; have hfz10_0 := blk_frozen BK108.out 0; have hfz10_1 := blk_frozen BK108.out 1; have hfz10_2 := blk_frozen BK108.out 2; have hfz10_3 := blk_frozen BK108.out 3; have hfz10_4 := blk_frozen BK108.out 4; have hfz10_5 := blk_frozen BK108.out 5))
    have n0_ := Aside0.mk (blk_drew BK108.out)
    have n1_ := Aside0.mk (below_drew1 HB.out)
    clear BK108
    clear HB
    have BK108 := n0_
    have HB := n1_
    clear n0_ n1_
    refine start_ (n := 14) (S := fun w' => w'.cell? ⟨gb108, 0, none⟩ = some (.int .i64 a0_0) ∧ w'.cell? ⟨gb108, 1, none⟩ = some (.int .i64 a0_1) ∧ w'.cell? ⟨gb108, 2, none⟩ = some (.int .i64 a0_2) ∧ w'.cell? ⟨gb108, 3, none⟩ = some (.int .u64 a0_3) ∧ w'.cell? ⟨gb108, 4, none⟩ = some (.int .u64 a0_4) ∧ w'.cell? ⟨gb108, 5, none⟩ = some (.int .u64 a0_5)) (ds := []) #[false, false, false, false, false, false, false, false, false, false, false, false, false, false] (by kernel_rfl) rfl rfl ⟨(blk_cell BK108.out 0).trans rfl, (blk_cell BK108.out 1).trans rfl, (blk_cell BK108.out 2).trans rfl, (blk_cell BK108.out 3).trans rfl, (blk_cell BK108.out 4).trans rfl, (blk_cell BK108.out 5).trans rfl⟩ (fun hHeld => ?_); refine with_tabW impl_toy_HashChildren.tab2 impl_toy_HashChildren.bits2 (fun HT_ HW_ => ?_)
    generalize w9.drew = w11 at BK108 HB hHeld ⊢
    refine pure_ (i := 0) (N := some 12) (v := ?_) (a' := ?_) #[true, false, false, false, false, false, false, false, false, false, false, false, false, false] rfl rfl (any_of HT_.out (by kernel_rfl)) (fun _ _ _ h => h) (Or.inl ⟨by rfl, ?_⟩) ?_ ?_
    rotate_left
    · intro w'
      go_simp
      with_reducible rfl
    rotate_left
    · simp only [Act.put, List.setIfInBounds_toArray, List.set_cons_zero, List.set_cons_succ, i64_w, i32_w]
      rfl
    refine pure_ (i := 1) (N := some 13) (v := ?_) (a' := ?_) #[true, true, false, false, false, false, false, false, false, false, false, false, false, false] rfl rfl (any_of HT_.out (by kernel_rfl)) (fun _ _ _ h => h) (Or.inl ⟨by rfl, ?_⟩) ?_ ?_
    rotate_left
    · intro w'
      go_simp
      with_reducible rfl
    rotate_left
    · simp only [Act.put, List.setIfInBounds_toArray, List.set_cons_zero, List.set_cons_succ, i64_w, i32_w]
      rfl
    refine pure_ (i := 3) (N := some 15) (v := ?_) (a' := ?_) #[true, true, false, true, false, false, false, false, false, false, false, false, false, false] rfl rfl (any_of HT_.out (by kernel_rfl)) (fun _ _ _ h => h) (Or.inl ⟨by rfl, ?_⟩) ?_ ?_
    rotate_left
    · intro w'
      go_simp
      with_reducible rfl
    rotate_left
    · simp only [Act.put, List.setIfInBounds_toArray, List.set_cons_zero, List.set_cons_succ, i64_w, i32_w]
      rfl
    refine pure_ (i := 7) (N := some 19) (v := ?_) (a' := ?_) #[true, true, false, true, false, false, false, true, false, false, false, false, false, false] rfl rfl (any_of HT_.out (by kernel_rfl)) (fun _ _ _ h => h) (Or.inl ⟨by rfl, ?_⟩) ?_ ?_
    rotate_left
    · intro w'
      go_simp
      with_reducible rfl
    rotate_left
    · simp only [Act.put, List.setIfInBounds_toArray, List.set_cons_zero, List.set_cons_succ, i64_w, i32_w]
      rfl
    refine pure_ (i := 9) (N := some 21) (v := ?_) (a' := ?_) #[true, true, false, true, false, false, false, true, false, true, false, false, false, false] rfl rfl (any_of HT_.out (by kernel_rfl)) (fun _ _ _ h => h) (Or.inl ⟨by rfl, ?_⟩) ?_ ?_
    rotate_left
    · intro w'
      go_simp
      with_reducible rfl
    rotate_left
    · simp only [Act.put, List.setIfInBounds_toArray, List.set_cons_zero, List.set_cons_succ, i64_w, i32_w]
      rfl
    refine pure_ (i := 10) (N := some 22) (v := ?_) (a' := ?_) #[true, true, false, true, false, false, false, true, false, true, true, false, false, false] rfl rfl (any_of HT_.out (by kernel_rfl)) (fun _ _ _ h => h) (Or.inl ⟨by rfl, ?_⟩) ?_ ?_
    rotate_left
    · intro w'
      go_simp
      with_reducible rfl
    rotate_left
    · simp only [Act.put, List.setIfInBounds_toArray, List.set_cons_zero, List.set_cons_succ, i64_w, i32_w]
      rfl
    refine take_ (i := 2) (N := some 14) (v := ?_) (a' := ?_) #[true, true, true, true, false, false, false, true, false, true, true, false, false, false] rfl rfl (take_ofW HT_.out HW_.out (by kernel_rfl)) (fun _ _ _ h => h) (Or.inl ⟨by rfl, ?_⟩) hHeld ?_ ?_
    rotate_left
    · rintro w' ⟨s0, s1, s2, s3, s4, s5⟩
      go_simp
      with_reducible rfl
    rotate_left
    · simp only [Act.put, List.setIfInBounds_toArray, List.set_cons_zero, List.set_cons_succ, i64_w, i32_w]
      rfl
    refine take_ (i := 11) (N := some 23) (v := ?_) (a' := ?_) #[true, true, true, true, false, false, false, true, false, true, true, true, false, false] rfl rfl (take_ofW HT_.out HW_.out (by kernel_rfl)) (fun _ _ _ h => h) (Or.inl ⟨by rfl, ?_⟩) hHeld ?_ ?_
    rotate_left
    · rintro w' ⟨s0, s1, s2, s3, s4, s5⟩
      go_simp
      with_reducible rfl
    rotate_left
    · simp only [Act.put, List.setIfInBounds_toArray, List.set_cons_zero, List.set_cons_succ, i64_w, i32_w]
      rfl
    refine join_ (σ := Value) 4 #[true, true, true, true, true, true, false, true, false, true, true, true, false, false] (fun s_ => [(16, .int .u64 t109), (17, s_)]) (fun s_ w' => (w'.cell? ⟨gb108, 0, none⟩ = some (.int .i64 a0_0) ∧ w'.cell? ⟨gb108, 1, none⟩ = some (.int .i64 a0_1) ∧ w'.cell? ⟨gb108, 2, none⟩ = some (.int .i64 a0_2) ∧ w'.cell? ⟨gb108, 3, none⟩ = some (.int .u64 a0_3) ∧ w'.cell? ⟨gb108, 4, none⟩ = some (.int .u64 a0_4) ∧ w'.cell? ⟨gb108, 5, none⟩ = some (.int .u64 a0_5)) ∧ (Kd.R (Kd.int .u8) 5 w' w.heap.size (fun _ => True) s_ y110) ∧ (w'.heap[gb108]? = some (.cells #[.int .i64 a0_0, .int .i64 a0_1, .int .i64 a0_2, .int .u64 a0_3, .int .u64 a0_4, .int .u64 a0_5] 85 (0, 0))) ∧ (Below w.heap.size w w')) ?_ ?_
    rotate_left
    · intro hCont
      refine two_ (i := 4) (j := 5) (Ni := some 16) (Nj := some 17) #[true, true, true, true, true, false, false, true, false, true, true, true, false, false] #[true, true, true, true, false, true, false, true, false, true, true, true, false, false] rfl rfl rfl rfl (two_of HT_.out (by kernel_rfl)) (by decide) (by decide) (fun K hK => ?_) (fun K hK => ?_)
      · skip
        refine goes_ Tryd.func90 (by kernel_rfl) rfl #[.int .u64 a0_5, .slice A1 l1.length c1] (by rfl) rfl rfl (by (try simp only [List.map_toArray, List.map_cons, List.map_nil]); first | done | rfl | (simp only [List.length_drop, List.length_take]; rfl)) ?_
        with_reducible refine (impl_mixed.calls k a0_5 _ _ l1 t109 _ ?side1 ?side2 A5.out).mono ?_
        (case side1 => repeat (first | exact (Kd.C_below HR1.out HB.out) | (with_reducible refine Kd.C_alloc ?_ _) | (with_reducible refine Kd.C_drewN ?_ _) | (with_reducible refine Kd.C_drew ?_)))
        (case side2 => exact HC1.out)
        rintro e w' ⟨rfl, ⟨nd, rfl⟩⟩
        refine ⟨_, rfl, ?_⟩
        refine hK.out _ _ ⟨(blk_cell BK108.out 0).trans rfl, (blk_cell BK108.out 1).trans rfl, (blk_cell BK108.out 2).trans rfl, (blk_cell BK108.out 3).trans rfl, (blk_cell BK108.out 4).trans rfl, (blk_cell BK108.out 5).trans rfl⟩ (fun hHeld => ?_)
        clear hK K
        refine norm_ (a' := ?_) ?_ ?_
        rotate_left
        · show Act.put _ (some 16) _ = _
          simp only [Act.put, List.setIfInBounds_toArray, List.set_cons_zero, List.set_cons_succ, i64_w, i32_w]
          rfl
        refine one_ (i := 5) (N := some 17) #[true, true, true, true, true, true, false, true, false, true, true, true, false, false] rfl rfl (one_of HT_.out (by kernel_rfl)) (by decide) (fun K hK => ?_)
        refine Kd.R_lit_step (Kd.int .u8) _ 5 ?hg (N := 17) ?hd (xs := ([255] : List Int)) (inner := [.int .u8 255]) (ok := fun _ => True) (okp := fun _ => True) ?hr ?hp (fun _ hk => hk) trivial (Below.refl _ _) (Nat.le_refl _) (by simp) ?_; (case hd => rfl); (case hg => rfl); (case hr => first | (go_simp; done) | (go_simp; rfl)); (case hp => exact (Reps.one (show Kd.M (Kd.int .u8) _ _ _ 255 [.int .u8 255] from rfl) (Reps.none _ _)))
        intro v111 w12 ho13 hb hg_ hnew_
        clear hg_ hnew_
        (first | rw [← Ny110.out] at ho13 | (simp only [Int.reduceToNat] at ho13; rw [← Ny110.out] at ho13))
        have n0_ := Aside0.mk (Kd.R_lower ho13 (below_size (by repeat (first | (with_reducible first | exact HB.out | apply below_alloc | apply pw_below_drewN | apply below_drew1 | refine below_set ?_ GE108.out) | exact HB.out))))
        have n1_ := Aside0.mk (blk_below (g := gb108) (o := .cells #[.int .i64 a0_0, .int .i64 a0_1, .int .i64 a0_2, .int .u64 a0_3, .int .u64 a0_4, .int .u64 a0_5] 85 (0, 0)) (by (with_reducible repeat (first | refine blk_drewN ?_ _ | refine blk_drew ?_ | refine blk_alloc ?_ _)); exact BK108.out) hb)
        have n2_ := Aside0.mk (below_step (by repeat (first | (with_reducible first | exact HB.out | apply below_alloc | apply pw_below_drewN | apply below_drew1 | refine below_set ?_ GE108.out) | exact HB.out)) hb)
        clear BK108
        clear HB
        have HO112 := n0_
        have BK108 := n1_
        have HB := n2_
        clear n0_ n1_ n2_
        clear hb ho13
        refine hK.out _ _ ⟨(blk_cell BK108.out 0).trans rfl, (blk_cell BK108.out 1).trans rfl, (blk_cell BK108.out 2).trans rfl, (blk_cell BK108.out 3).trans rfl, (blk_cell BK108.out 4).trans rfl, (blk_cell BK108.out 5).trans rfl⟩ (fun hHeld => ?_)
        clear hK K
        refine norm_ (a' := ?_) ?_ ?_
        rotate_left
        · show Act.put _ (some 17) _ = _
          simp only [Act.put, List.setIfInBounds_toArray, List.set_cons_zero, List.set_cons_succ, i64_w, i32_w]
          rfl
        exact norm_ (by simp only [putAll, Act.put, List.setIfInBounds_toArray, List.set_cons_zero, List.set_cons_succ]) (hCont (v111) _ ⟨hHeld, (by (with_reducible repeat (first | apply Kd.R_alloc | apply Kd.R_drewN | apply Kd.R_drew)); exact HO112.out), (by (with_reducible repeat (first | refine blk_drewN ?_ _ | refine blk_drew ?_ | refine blk_alloc ?_ _)); exact BK108.out), (by repeat (first | (with_reducible first | exact HB.out | apply below_alloc | apply pw_below_drewN | apply below_drew1 | refine below_set ?_ GE108.out) | exact HB.out))⟩)
      · skip
        refine Kd.R_lit_step (Kd.int .u8) _ 5 ?hg (N := 17) ?hd (xs := ([255] : List Int)) (inner := [.int .u8 255]) (ok := fun _ => True) (okp := fun _ => True) ?hr ?hp (fun _ hk => hk) trivial (Below.refl _ _) (Nat.le_refl _) (by simp) ?_; (case hd => rfl); (case hg => rfl); (case hr => first | (go_simp; done) | (go_simp; rfl)); (case hp => exact (Reps.one (show Kd.M (Kd.int .u8) _ _ _ 255 [.int .u8 255] from rfl) (Reps.none _ _)))
        intro v111 w12 ho13 hb hg_ hnew_
        clear hg_ hnew_
        (first | rw [← Ny110.out] at ho13 | (simp only [Int.reduceToNat] at ho13; rw [← Ny110.out] at ho13))
        have n0_ := Aside0.mk (Kd.R_lower ho13 (below_size (by repeat (first | (with_reducible first | exact HB.out | apply below_alloc | apply pw_below_drewN | apply below_drew1 | refine below_set ?_ GE108.out) | exact HB.out))))
        have n1_ := Aside0.mk (blk_below (g := gb108) (o := .cells #[.int .i64 a0_0, .int .i64 a0_1, .int .i64 a0_2, .int .u64 a0_3, .int .u64 a0_4, .int .u64 a0_5] 85 (0, 0)) (by (with_reducible repeat (first | refine blk_drewN ?_ _ | refine blk_drew ?_ | refine blk_alloc ?_ _)); exact BK108.out) hb)
        have n2_ := Aside0.mk (below_step (by repeat (first | (with_reducible first | exact HB.out | apply below_alloc | apply pw_below_drewN | apply below_drew1 | refine below_set ?_ GE108.out) | exact HB.out)) hb)
        clear BK108
        clear HB
        have HO112 := n0_
        have BK108 := n1_
        have HB := n2_
        clear n0_ n1_ n2_
        clear hb ho13
        refine hK.out _ _ ⟨(blk_cell BK108.out 0).trans rfl, (blk_cell BK108.out 1).trans rfl, (blk_cell BK108.out 2).trans rfl, (blk_cell BK108.out 3).trans rfl, (blk_cell BK108.out 4).trans rfl, (blk_cell BK108.out 5).trans rfl⟩ (fun hHeld => ?_)
        clear hK K
        refine norm_ (a' := ?_) ?_ ?_
        rotate_left
        · show Act.put _ (some 17) _ = _
          simp only [Act.put, List.setIfInBounds_toArray, List.set_cons_zero, List.set_cons_succ, i64_w, i32_w]
          rfl
        refine one_ (i := 4) (N := some 16) #[true, true, true, true, true, true, false, true, false, true, true, true, false, false] rfl rfl (one_of HT_.out (by kernel_rfl)) (by decide) (fun K hK => ?_)
        refine goes_ Tryd.func90 (by kernel_rfl) rfl #[.int .u64 a0_5, .slice A1 l1.length c1] (by rfl) rfl rfl (by (try simp only [List.map_toArray, List.map_cons, List.map_nil]); first | done | rfl | (simp only [List.length_drop, List.length_take]; rfl)) ?_
        with_reducible refine (impl_mixed.calls k a0_5 _ _ l1 t109 _ ?side1 ?side2 A5.out).mono ?_
        (case side1 => repeat (first | exact (Kd.C_below HR1.out HB.out) | (with_reducible refine Kd.C_alloc ?_ _) | (with_reducible refine Kd.C_drewN ?_ _) | (with_reducible refine Kd.C_drew ?_)))
        (case side2 => exact HC1.out)
        rintro e w' ⟨rfl, ⟨nd, rfl⟩⟩
        refine ⟨_, rfl, ?_⟩
        refine hK.out _ _ ⟨(blk_cell BK108.out 0).trans rfl, (blk_cell BK108.out 1).trans rfl, (blk_cell BK108.out 2).trans rfl, (blk_cell BK108.out 3).trans rfl, (blk_cell BK108.out 4).trans rfl, (blk_cell BK108.out 5).trans rfl⟩ (fun hHeld => ?_)
        clear hK K
        refine norm_ (a' := ?_) ?_ ?_
        rotate_left
        · show Act.put _ (some 16) _ = _
          simp only [Act.put, List.setIfInBounds_toArray, List.set_cons_zero, List.set_cons_succ, i64_w, i32_w]
          rfl
        exact norm_ (by simp only [putAll, Act.put, List.setIfInBounds_toArray, List.set_cons_zero, List.set_cons_succ]) (hCont (v111) _ ⟨hHeld, (by (with_reducible repeat (first | apply Kd.R_alloc | apply Kd.R_drewN | apply Kd.R_drew)); exact HO112.out), (by (with_reducible repeat (first | refine blk_drewN ?_ _ | refine blk_drew ?_ | refine blk_alloc ?_ _)); exact BK108.out), (by repeat (first | (with_reducible first | exact HB.out | apply below_alloc | apply pw_below_drewN | apply below_drew1 | refine below_set ?_ GE108.out) | exact HB.out))⟩)
    rintro v111 w14 ⟨hS_, h0_, h1_, h2_⟩
    have n0_ : Aside0 (Kd.R (Kd.int .u8) 5 w14 w.heap.size (fun _ => True) v111 y110) := ⟨h0_⟩
    have n1_ : Aside0 (w14.heap[gb108]? = some (.cells #[.int .i64 a0_0, .int .i64 a0_1, .int .i64 a0_2, .int .u64 a0_3, .int .u64 a0_4, .int .u64 a0_5] 85 (0, 0))) := ⟨h1_⟩
    have n2_ : Aside0 (Below w.heap.size w w14) := ⟨h2_⟩
    clear BK108
    clear HB
    clear h0_ h1_ h2_
    have HO112 := n0_
    have BK108 := n1_
    have HB := n2_
    clear n0_ n1_ n2_
    have hHeld : w14.cell? ⟨gb108, 0, none⟩ = some (.int .i64 a0_0) ∧ w14.cell? ⟨gb108, 1, none⟩ = some (.int .i64 a0_1) ∧ w14.cell? ⟨gb108, 2, none⟩ = some (.int .i64 a0_2) ∧ w14.cell? ⟨gb108, 3, none⟩ = some (.int .u64 a0_3) ∧ w14.cell? ⟨gb108, 4, none⟩ = some (.int .u64 a0_4) ∧ w14.cell? ⟨gb108, 5, none⟩ = some (.int .u64 a0_5) := hS_
    obtain ⟨Ao15, co15, eo15⟩ := Kd.R_slice HO112.out
    (first | subst eo15 | (injection eo15 with f1_ f2_ f3_; have f4_ := f1_.symm; have f5_ := f3_.symm; clear f1_ f2_ f3_; subst f4_; subst f5_))
    refine norm_ (a' := ?_) ?_ ?_
    rotate_left
    · simp only [putAll, Act.put, List.setIfInBounds_toArray, List.set_cons_zero, List.set_cons_succ]
      rfl
    refine one_ (i := 6) (N := some 18) #[true, true, true, true, true, true, true, true, false, true, true, true, false, false] rfl rfl (one_of HT_.out (by kernel_rfl)) (by decide) (fun K hK => ?_)
    refine goes_ Tryd.func90 (by kernel_rfl) rfl #[.int .u64 t109, .slice Ao15 y110.length co15] (by rfl) rfl rfl (by (try simp only [List.map_toArray, List.map_cons, List.map_nil]); first | done | rfl | (simp only [List.length_drop, List.length_take]; rfl)) ?_
    with_reducible refine (impl_mixed.calls k t109 _ _ y110 t113 _ ?side1 ?side2 A6.out).mono ?_
    (case side1 => repeat (first | exact (Kd.R_reads' HO112.out).2.2 | (with_reducible refine Kd.C_alloc ?_ _) | (with_reducible refine Kd.C_drewN ?_ _) | (with_reducible refine Kd.C_drew ?_)))
    (case side2 => exact (Kd.R_reads' HO112.out).2.1)
    rintro e w' ⟨rfl, ⟨nd, rfl⟩⟩
    refine ⟨_, rfl, ?_⟩
    refine hK.out _ _ ⟨(blk_cell BK108.out 0).trans rfl, (blk_cell BK108.out 1).trans rfl, (blk_cell BK108.out 2).trans rfl, (blk_cell BK108.out 3).trans rfl, (blk_cell BK108.out 4).trans rfl, (blk_cell BK108.out 5).trans rfl⟩ (fun hHeld => ?_)
    clear hK K
    refine norm_ (a' := ?_) ?_ ?_
    rotate_left
    · show Act.put _ (some 18) _ = _
      simp only [Act.put, List.setIfInBounds_toArray, List.set_cons_zero, List.set_cons_succ, i64_w, i32_w]
      rfl
    refine one_ (i := 8) (N := some 20) #[true, true, true, true, true, true, true, true, true, true, true, true, false, false] rfl rfl (one_of HT_.out (by kernel_rfl)) (by decide) (fun K hK => ?_)
    refine goes_ Tryd.func90 (by kernel_rfl) rfl #[.int .u64 t113, .slice A2 l2.length c2] (by rfl) rfl rfl (by (try simp only [List.map_toArray, List.map_cons, List.map_nil]); first | done | rfl | (simp only [List.length_drop, List.length_take]; rfl)) ?_
    with_reducible refine (impl_mixed.calls k t113 _ _ l2 t114 _ ?side1 ?side2 A7.out).mono ?_
    (case side1 => repeat (first | exact (Kd.C_below HR2.out (by repeat (first | (with_reducible first | exact HB.out | apply below_alloc | apply pw_below_drewN | apply below_drew1 | refine below_set ?_ GE108.out) | exact HB.out))) | (with_reducible refine Kd.C_alloc ?_ _) | (with_reducible refine Kd.C_drewN ?_ _) | (with_reducible refine Kd.C_drew ?_)))
    (case side2 => exact HC2.out)
    rintro e w' ⟨rfl, ⟨nd, rfl⟩⟩
    refine ⟨_, rfl, ?_⟩
    refine hK.out _ _ ⟨(blk_cell BK108.out 0).trans rfl, (blk_cell BK108.out 1).trans rfl, (blk_cell BK108.out 2).trans rfl, (blk_cell BK108.out 3).trans rfl, (blk_cell BK108.out 4).trans rfl, (blk_cell BK108.out 5).trans rfl⟩ (fun hHeld => ?_)
    clear hK K
    refine norm_ (a' := ?_) ?_ ?_
    rotate_left
    · show Act.put _ (some 20) _ = _
      simp only [Act.put, List.setIfInBounds_toArray, List.set_cons_zero, List.set_cons_succ, i64_w, i32_w]
      rfl
    refine one_ (i := 12) (N := some 24) #[true, true, true, true, true, true, true, true, true, true, true, true, true, false] rfl rfl (one_of HT_.out (by kernel_rfl)) (by decide) (fun K hK => ?_)
    refine goes_ Tryd.func89 (by kernel_rfl) rfl #[.int .u64 t114, .int .i64 a0_2] (by rfl) rfl rfl (by (try simp only [List.map_toArray, List.map_cons, List.map_nil]); first | done | rfl | (simp only [List.length_drop, List.length_take]; rfl)) ?_
    with_reducible refine (impl_word.calls k t114 a0_2 t115 _ A8.out).mono ?_
    rintro e w16 ⟨v116, rfl, ho0, hb⟩
    refine ⟨_, rfl, ?_⟩
    have n0_ := Aside0.mk (Kd.R_elder' (by (with_reducible repeat (first | apply Kd.R_alloc | apply Kd.R_drewN | apply Kd.R_drew)); exact HO112.out) (Kd.R_base ho0) hb)
    have n1_ := Aside0.mk (Kd.R_lower (Kd.R_new' ho0 (Kd.R_lt (by (with_reducible repeat (first | apply Kd.R_alloc | apply Kd.R_drewN | apply Kd.R_drew)); exact HO112.out))) (below_size (by repeat (first | (with_reducible first | exact HB.out | apply below_alloc | apply pw_below_drewN | apply below_drew1 | refine below_set ?_ GE108.out) | exact HB.out))))
    have n2_ := Aside0.mk (blk_below (g := gb108) (o := .cells #[.int .i64 a0_0, .int .i64 a0_1, .int .i64 a0_2, .int .u64 a0_3, .int .u64 a0_4, .int .u64 a0_5] 85 (0, 0)) (by (with_reducible repeat (first | refine blk_drewN ?_ _ | refine blk_drew ?_ | refine blk_alloc ?_ _)); exact BK108.out) hb)
    have n3_ := Aside0.mk (below_step (by repeat (first | (with_reducible first | exact HB.out | apply below_alloc | apply pw_below_drewN | apply below_drew1 | refine below_set ?_ GE108.out) | exact HB.out)) hb)
    clear HO112
    clear BK108
    clear HB
    have HO112 := n0_
    have HO117 := n1_
    have BK108 := n2_
    have HB := n3_
    clear n0_ n1_ n2_ n3_
    (try clear hb)
    (try clear hb2)
    (try clear hk)
    (try clear hi)
    (try clear ho0)
    refine hK.out _ _ ⟨(blk_cell BK108.out 0).trans rfl, (blk_cell BK108.out 1).trans rfl, (blk_cell BK108.out 2).trans rfl, (blk_cell BK108.out 3).trans rfl, (blk_cell BK108.out 4).trans rfl, (blk_cell BK108.out 5).trans rfl⟩ (fun hHeld => ?_)
    clear hK K
    refine norm_ (a' := ?_) ?_ ?_
    rotate_left
    · show Act.put _ (some 24) _ = _
      simp only [Act.put, List.setIfInBounds_toArray, List.set_cons_zero, List.set_cons_succ, i64_w, i32_w]
      rfl
    refine pure_ (i := 13) (N := some 6) (v := ?_) (a' := ?_) #[true, true, true, true, true, true, true, true, true, true, true, true, true, true] rfl rfl (any_of HT_.out (by kernel_rfl)) (fun _ _ _ h => h) (Or.inl ⟨by rfl, ?_⟩) ?_ ?_
    rotate_left
    · intro w'
      go_simp
      with_reducible rfl
    rotate_left
    · simp only [Act.put, List.setIfInBounds_toArray, List.set_cons_zero, List.set_cons_succ, i64_w, i32_w]
      rfl
    refine done_ (done_of HT_.out (by kernel_rfl)) ?_
    try go_wp2
    go_ret
    exact ⟨_, by first | rfl | (simp [errW_none, errW_some] <;> rfl) | (simp [*, errW_none, errW_some] <;> rfl), by (with_reducible repeat (first | apply Kd.R_alloc | apply Kd.R_drewN | apply Kd.R_drew)); exact Kd.R_mono HO117.out (fun _ hk => trivial), by repeat (first | (with_reducible first | exact HB.out | apply below_alloc | apply pw_below_drewN | apply below_drew1 | refine below_set ?_ GE108.out) | exact HB.out)⟩
  · rw [if_neg c4] at H
    have c4b0 : (a0_0 == 1) = false := beq_eq_false_iff_ne.mpr c4
    have c4b1 : (a0_0 != 1) = true := bne_iff_ne.mpr c4
    obtain ⟨y118, hy118⟩ : ∃ y_ : List Int, y_ = (([1] : List Int)) := ⟨_, rfl⟩
    replace H : ((impl_word.f k (IntKind.u64.wrap ((l1.length : Int))) 8).bind fun t121 => (if y118.length + t121.length < 140737488355328 then ((some (y118 ++ t121 : List Int)).bind fun y124 => (if y124.length + l1.length < 140737488355328 then ((some (y124 ++ l1 : List Int)).bind fun y127 => (if y127.length + l2.length < 140737488355328 then (some (y127 ++ l2)) else (none))) else (none))) else (none))) = some r := by first | (rw [hy118]; with_reducible exact H) | (have H2_ := (Option.bind_some _ _).symm.trans H; rw [hy118]; with_reducible exact H2_) | (have H2_ := (Option.bind_some _ _).symm.trans H; with_reducible exact H2_) | with_reducible exact H | (rw [hy118]; exact H) | exact H
    have Ny118 := Aside0.mk hy118
    clear hy118
    replace H := Option.bind_eq_some_iff.mp H
    obtain ⟨t121, A170, H⟩ := H
    replace H : (if y118.length + t121.length < 140737488355328 then ((some (y118 ++ t121 : List Int)).bind fun y124 => (if y124.length + l1.length < 140737488355328 then ((some (y124 ++ l1 : List Int)).bind fun y127 => (if y127.length + l2.length < 140737488355328 then (some (y127 ++ l2)) else (none))) else (none))) else (none)) = some r := H
    have A17 := Aside0.mk A170
    clear A170
    by_cases c18 : y118.length + t121.length < 140737488355328
    · rw [if_pos c18] at H
      have LMc18 := Aside0.mk c18
      clear c18
      obtain ⟨y124, hy124⟩ : ∃ y_ : List Int, y_ = (y118 ++ t121) := ⟨_, rfl⟩
      replace H : (if y124.length + l1.length < 140737488355328 then ((some (y124 ++ l1 : List Int)).bind fun y127 => (if y127.length + l2.length < 140737488355328 then (some (y127 ++ l2)) else (none))) else (none)) = some r := by first | (rw [hy124]; with_reducible exact H) | (have H2_ := (Option.bind_some _ _).symm.trans H; rw [hy124]; with_reducible exact H2_) | (have H2_ := (Option.bind_some _ _).symm.trans H; with_reducible exact H2_) | with_reducible exact H | (rw [hy124]; exact H) | exact H
      have Ny124 := Aside0.mk hy124
      clear hy124
      by_cases c19 : y124.length + l1.length < 140737488355328
      · rw [if_pos c19] at H
        have LMc19 := Aside0.mk c19
        clear c19
        obtain ⟨y127, hy127⟩ : ∃ y_ : List Int, y_ = (y124 ++ l1) := ⟨_, rfl⟩
        replace H : (if y127.length + l2.length < 140737488355328 then (some (y127 ++ l2)) else (none)) = some r := by first | (rw [hy127]; with_reducible exact H) | (have H2_ := (Option.bind_some _ _).symm.trans H; rw [hy127]; with_reducible exact H2_) | (have H2_ := (Option.bind_some _ _).symm.trans H; with_reducible exact H2_) | with_reducible exact H | (rw [hy127]; exact H) | exact H
        have Ny127 := Aside0.mk hy127
        clear hy127
        by_cases c20 : y127.length + l2.length < 140737488355328
        · rw [if_pos c20] at H
          have LMc20 := Aside0.mk c20
          clear c20
          obtain ⟨y130, hy130⟩ : ∃ y_ : List Int, y_ = (y127 ++ l2) := ⟨_, rfl⟩
          replace H : (some y130) = some r := by first | (rw [hy130]; with_reducible exact H) | (have H2_ := (Option.bind_some _ _).symm.trans H; rw [hy130]; with_reducible exact H2_) | (have H2_ := (Option.bind_some _ _).symm.trans H; with_reducible exact H2_) | with_reducible exact H | (rw [hy130]; exact H) | exact H
          have Ny130 := Aside0.mk hy130
          clear hy130
          obtain rfl := Option.some.inj H
          go_enter Tryd.func52, Tryd.ntmps52
          go_wp2_with (first | ((with_reducible refine gate_dst (N := 3) rfl ?_); refine box_event ?hg (N := 3) ?hd (cs := #[.int .i64 a0_0, .int .i64 a0_1, .int .i64 a0_2, .int .u64 a0_3, .int .u64 a0_4, .int .u64 a0_5]) (t := 85) ?hr ?_; (case hd => rfl); (case hg => rfl); (case hr => first | (go_simp; done) | (go_simp; rfl)); intro gb108 hg w21 hbox hb; have n0_ := Aside0.mk (below_step (by repeat (first | (with_reducible first | exact HB.out | apply below_alloc | apply pw_below_drewN | apply below_drew1) | exact HB.out)) hb); have n1_ := Aside0.mk (hbox); have n2_ := Aside0.mk ((by rw [hg]; exact (below_size (by repeat (first | (with_reducible first | exact HB.out | apply below_alloc | apply pw_below_drewN | apply below_drew1) | exact HB.out))) : w.heap.size ≤ gb108)); have n3_ := Aside0.mk ((by rw [hg]; exact (below_size (by repeat (first | (with_reducible first | exact HB.out | apply below_alloc | apply pw_below_drewN | apply below_drew1) | exact HB.out))) : w.heap.size ≤ gb108)); clear HB; have HB := n0_; have BK108 := n1_; have GW108 := n2_; have GE108 := n3_; clear n0_ n1_ n2_ n3_; clear hb hbox hg; have hcz22_0 : w21.cell? ⟨gb108, 0, none⟩ = some (.int .i64 a0_0) := (blk_cell BK108.out 0).trans rfl; have hcz22_1 : w21.cell? ⟨gb108, 1, none⟩ = some (.int .i64 a0_1) := (blk_cell BK108.out 1).trans rfl; have hcz22_2 : w21.cell? ⟨gb108, 2, none⟩ = some (.int .i64 a0_2) := (blk_cell BK108.out 2).trans rfl; have hcz22_3 : w21.cell? ⟨gb108, 3, none⟩ = some (.int .u64 a0_3) := (blk_cell BK108.out 3).trans rfl; have hcz22_4 : w21.cell? ⟨gb108, 4, none⟩ = some (.int .u64 a0_4) := (blk_cell BK108.out 4).trans rfl; have hcz22_5 : w21.cell? ⟨gb108, 5, none⟩ = some (.int .u64 a0_5) := (blk_cell BK108.out 5).trans rfl; have hfz22_0 := blk_frozen BK108.out 0; have hfz22_1 := blk_frozen BK108.out 1; have hfz22_2 := blk_frozen BK108.out 2; have hfz22_3 := blk_frozen BK108.out 3; have hfz22_4 := blk_frozen BK108.out 4; have hfz22_5 := blk_frozen BK108.out 5) | ((with_reducible refine gate_dst (N := 25) rfl ?_); refine Kd.R_lit (Kd.int .u8) _ 5 ?hg (N := 25) ?hd (xs := ([1] : List Int)) (inner := [.int .u8 1]) (ok := fun _ => True) (okp := fun _ => True) ?hr ?hp (fun _ hk => hk) trivial (Below.refl _ _) (Nat.le_refl _) (by simp) ?_; (case hd => rfl); (case hg => rfl); (case hr => first | (go_simp; done) | (go_simp; rfl)); (case hp => exact (Reps.one (show Kd.M (Kd.int .u8) _ _ _ 1 [.int .u8 1] from rfl) (Reps.none _ _))); intro v119 w23 ho24 hb hg_ hnew_; clear hg_ hnew_; (first | rw [← Ny118.out] at ho24 | (simp only [Int.reduceToNat] at ho24; rw [← Ny118.out] at ho24)); have n0_ := Aside0.mk (Kd.R_lower ho24 (below_size (by repeat (first | (with_reducible first | exact HB.out | apply below_alloc | apply pw_below_drewN | apply below_drew1 | refine below_set ?_ GE108.out) | exact HB.out)))); have n1_ := Aside0.mk (blk_below (g := gb108) (o := .cells #[.int .i64 a0_0, .int .i64 a0_1, .int .i64 a0_2, .int .u64 a0_3, .int .u64 a0_4, .int .u64 a0_5] 85 (0, 0)) (by (with_reducible repeat (first | refine blk_drewN ?_ _ | refine blk_drew ?_ | refine blk_alloc ?_ _)); exact BK108.out) hb); have n2_ := Aside0.mk (below_step (by repeat (first | (with_reducible first | exact HB.out | apply below_alloc | apply pw_below_drewN | apply below_drew1 | refine below_set ?_ GE108.out) | exact HB.out)) hb); clear BK108; clear HB; have HO120 := n0_; have BK108 := n1_; have HB := n2_; clear n0_ n1_ n2_; clear hb ho24) | ((with_reducible refine gate_callee (f := 89) rfl ?_); refine goesL_ (some 29) rfl rfl Tryd.func89 (by kernel_rfl) rfl #[.int .u64 (IntKind.u64.wrap ((l1.length : Int))), .int .i64 8] rfl (by (try simp only [List.map_toArray, List.map_cons, List.map_nil]); first | done | rfl | (simp only [List.length_drop, List.length_take]; rfl)) ?_; (with_reducible refine (impl_word.calls k (IntKind.u64.wrap ((l1.length : Int))) 8 t121 _ A17.out).mono ?_); rintro e w25 ⟨v122, rfl, ho0, hb⟩; refine ⟨_, rfl, ?_⟩; have n0_ := Aside0.mk (Kd.R_elder' (by (with_reducible repeat (first | apply Kd.R_alloc | apply Kd.R_drewN | apply Kd.R_drew)); exact HO120.out) (Kd.R_base ho0) hb); have n1_ := Aside0.mk (Kd.R_lower (Kd.R_new' ho0 (Kd.R_lt (by (with_reducible repeat (first | apply Kd.R_alloc | apply Kd.R_drewN | apply Kd.R_drew)); exact HO120.out))) (below_size (by repeat (first | (with_reducible first | exact HB.out | apply below_alloc | apply pw_below_drewN | apply below_drew1 | refine below_set ?_ GE108.out) | exact HB.out)))); have n2_ := Aside0.mk (blk_below (g := gb108) (o := .cells #[.int .i64 a0_0, .int .i64 a0_1, .int .i64 a0_2, .int .u64 a0_3, .int .u64 a0_4, .int .u64 a0_5] 85 (0, 0)) (by (with_reducible repeat (first | refine blk_drewN ?_ _ | refine blk_drew ?_ | refine blk_alloc ?_ _)); exact BK108.out) hb); have n3_ := Aside0.mk (below_step (by repeat (first | (with_reducible first | exact HB.out | apply below_alloc | apply pw_below_drewN | apply below_drew1 | refine below_set ?_ GE108.out) | exact HB.out)) hb); clear HO120; clear BK108; clear HB; have HO120 := n0_; have HO123 := n1_; have BK108 := n2_; have HB := n3_; clear n0_ n1_ n2_ n3_; (try clear hb); (try clear hb2); (try clear hk); (try clear hi); (try clear ho0); obtain ⟨Ao27, co27, eo27⟩ := Kd.R_slice HO123.out; subst eo27) | ((with_reducible refine gate_builtin (b := .append) (xs := #[.tmp 25, .tmp 29]) rfl ?_); at_builtin; refine Kd.R_append_rows (Kd.int .u8) (w0 := w) w.heap.size rfl (.tmp 25) (.tmp 29) 27 5 (.int .u8 0) 1 rfl Tryd.underlying27 info5 rfl (by decide) (by omega) v119 y118 t121 _ _ _ (fun k_ => some k_ ≠ (.slice Ao27 t121.length co27 : Value).ownBlock) (fun _ => False) rfl rfl ?aO ?aR (fun _ _ h => h) (fun _ h => h.elim) ?aF ?aB ?aS ?aL ?_; (case aR => repeat (first | exact (Kd.R_reads' HO123.out).2.2 | (with_reducible refine Kd.C_alloc ?_ _) | (with_reducible refine Kd.C_drewN ?_ _) | (with_reducible refine Kd.C_drew ?_))); (case aB => exact (by repeat (first | (with_reducible first | exact HB.out | apply below_alloc | apply pw_below_drewN | apply below_drew1 | refine below_set ?_ GE108.out) | exact HB.out))); (case aF => exact (fun k_ hk => Kd.fresh' (Kd.R_lt (by (with_reducible repeat (first | apply Kd.R_alloc | apply Kd.R_drewN | apply Kd.R_drew)); exact HO123.out)) k_ hk)); (case aO => exact (by (with_reducible repeat (first | apply Kd.R_alloc | apply Kd.R_drewN | apply Kd.R_drew)); exact Kd.R_mono HO120.out (fun _ hk => hk.2))); (case aS => exact (below_size (by repeat (first | (with_reducible first | exact HB.out | apply below_alloc | apply pw_below_drewN | apply below_drew1 | refine below_set ?_ GE108.out) | exact HB.out)))); (case aL => have := LMc18.out; omega); intro v125 w26 ho hb hg hat; rw [← Ny124.out] at ho; have n0_ := Aside0.mk (blk_grown (g := gb108) (o := .cells #[.int .i64 a0_0, .int .i64 a0_1, .int .i64 a0_2, .int .u64 a0_3, .int .u64 a0_4, .int .u64 a0_5] 85 (0, 0)) (by (with_reducible repeat (first | refine blk_drewN ?_ _ | refine blk_drew ?_ | refine blk_alloc ?_ _)); exact BK108.out) hg (Kd.R_ne HO120.out BK108.out (by decide))); have n1_ := Aside0.mk (Kd.R_after (ok := (fun _ => True)) (by (with_reducible repeat (first | apply Kd.R_alloc | apply Kd.R_drewN | apply Kd.R_drew)); exact HO123.out) hg hat); have n2_ := Aside0.mk (hb); have n3_ := Aside0.mk (ho); clear BK108; clear HO123; clear HB; clear HO120; have BK108 := n0_; have HO123 := n1_; have HB := n2_; have HO126 := n3_; clear n0_ n1_ n2_ n3_; clear ho hb hg hat) | ((with_reducible refine gate_builtin (b := .append) (xs := #[.tmp 31, .tmp 32]) rfl ?_); at_builtin; refine Kd.R_append_rows (Kd.int .u8) (w0 := w) w.heap.size rfl (.tmp 31) (.tmp 32) 27 5 (.int .u8 0) 1 rfl Tryd.underlying27 info5 rfl (by decide) (by omega) v125 y124 l1 _ _ _ (fun k_ => some k_ ≠ (.slice Ao27 t121.length co27 : Value).ownBlock) (fun _ => False) rfl rfl ?aO ?aR (fun _ _ h => h) (fun _ h => h.elim) ?aF ?aB ?aS ?aL ?_; (case aR => repeat (first | exact (Kd.C_below HR1.out HB.out) | (with_reducible refine Kd.C_alloc ?_ _) | (with_reducible refine Kd.C_drewN ?_ _) | (with_reducible refine Kd.C_drew ?_))); (case aB => exact (by repeat (first | (with_reducible first | exact HB.out | apply below_alloc | apply pw_below_drewN | apply below_drew1 | refine below_set ?_ GE108.out) | exact HB.out))); (case aF => exact (fun k_ hk => Kd.fresh' (Kd.R_lt (by (with_reducible repeat (first | apply Kd.R_alloc | apply Kd.R_drewN | apply Kd.R_drew)); exact HO123.out)) k_ hk)); (case aO => exact (by (with_reducible repeat (first | apply Kd.R_alloc | apply Kd.R_drewN | apply Kd.R_drew)); exact HO126.out)); (case aS => exact (below_size (by repeat (first | (with_reducible first | exact HB.out | apply below_alloc | apply pw_below_drewN | apply below_drew1 | refine below_set ?_ GE108.out) | exact HB.out)))); (case aL => have := LMc19.out; omega); intro v128 w28 ho hb hg hat; rw [← Ny127.out] at ho; have n0_ := Aside0.mk (blk_grown (g := gb108) (o := .cells #[.int .i64 a0_0, .int .i64 a0_1, .int .i64 a0_2, .int .u64 a0_3, .int .u64 a0_4, .int .u64 a0_5] 85 (0, 0)) (by (with_reducible repeat (first | refine blk_drewN ?_ _ | refine blk_drew ?_ | refine blk_alloc ?_ _)); exact BK108.out) hg (Kd.R_ne HO126.out BK108.out (by decide))); have n1_ := Aside0.mk (Kd.R_after (ok := (fun _ => True)) (by (with_reducible repeat (first | apply Kd.R_alloc | apply Kd.R_drewN | apply Kd.R_drew)); exact HO123.out) hg hat); have n2_ := Aside0.mk (hb); have n3_ := Aside0.mk (ho); clear BK108; clear HO123; clear HB; clear HO126; have BK108 := n0_; have HO123 := n1_; have HB := n2_; have HO129 := n3_; clear n0_ n1_ n2_ n3_; clear ho hb hg hat) | ((with_reducible refine gate_builtin (b := .append) (xs := #[.tmp 33, .tmp 34]) rfl ?_); at_builtin; refine Kd.R_append_rows (Kd.int .u8) (w0 := w) w.heap.size rfl (.tmp 33) (.tmp 34) 27 5 (.int .u8 0) 1 rfl Tryd.underlying27 info5 rfl (by decide) (by omega) v128 y127 l2 _ _ _ (fun k_ => some k_ ≠ (.slice Ao27 t121.length co27 : Value).ownBlock) (fun _ => False) rfl rfl ?aO ?aR (fun _ _ h => h) (fun _ h => h.elim) ?aF ?aB ?aS ?aL ?_; (case aR => repeat (first | exact (Kd.C_below HR2.out HB.out) | (with_reducible refine Kd.C_alloc ?_ _) | (with_reducible refine Kd.C_drewN ?_ _) | (with_reducible refine Kd.C_drew ?_))); (case aB => exact (by repeat (first | (with_reducible first | exact HB.out | apply below_alloc | apply pw_below_drewN | apply below_drew1 | refine below_set ?_ GE108.out) | exact HB.out))); (case aF => exact (fun k_ hk => Kd.fresh' (Kd.R_lt (by (with_reducible repeat (first | apply Kd.R_alloc | apply Kd.R_drewN | apply Kd.R_drew)); exact HO123.out)) k_ hk)); (case aO => exact (by (with_reducible repeat (first | apply Kd.R_alloc | apply Kd.R_drewN | apply Kd.R_drew)); exact HO129.out)); (case aS => exact (below_size (by repeat (first | (with_reducible first | exact HB.out | apply below_alloc | apply pw_below_drewN | apply below_drew1 | refine below_set ?_ GE108.out) | exact HB.out)))); (case aL => have := LMc20.out; omega); intro v131 w29 ho hb hg hat; rw [← Ny130.out] at ho; have n0_ := Aside0.mk (blk_grown (g := gb108) (o := .cells #[.int .i64 a0_0, .int .i64 a0_1, .int .i64 a0_2, .int .u64 a0_3, .int .u64 a0_4, .int .u64 a0_5] 85 (0, 0)) (by (with_reducible repeat (first | refine blk_drewN ?_ _ | refine blk_drew ?_ | refine blk_alloc ?_ _)); exact BK108.out) hg (Kd.R_ne HO129.out BK108.out (by decide))); have n1_ := Aside0.mk (Kd.R_after (ok := (fun _ => True)) (by (with_reducible repeat (first | apply Kd.R_alloc | apply Kd.R_drewN | apply Kd.R_drew)); exact HO123.out) hg hat); have n2_ := Aside0.mk (hb); have n3_ := Aside0.mk (ho); clear BK108; clear HO123; clear HB; clear HO129; have BK108 := n0_; have HO123 := n1_; have HB := n2_; have HO132 := n3_; clear n0_ n1_ n2_ n3_; clear ho hb hg hat))
          go_ret
          exact ⟨_, by first | rfl | (simp [errW_none, errW_some] <;> rfl) | (simp [*, errW_none, errW_some] <;> rfl), by (with_reducible repeat (first | apply Kd.R_alloc | apply Kd.R_drewN | apply Kd.R_drew)); exact Kd.R_mono HO132.out (fun _ hk => trivial), by repeat (first | (with_reducible first | exact HB.out | apply below_alloc | apply pw_below_drewN | apply below_drew1 | refine below_set ?_ GE108.out) | exact HB.out)⟩
        · rw [if_neg c20] at H
          exact absurd H (by simp)
      · rw [if_neg c19] at H
        exact absurd H (by simp)
    · rw [if_neg c18] at H
      exact absurd H (by simp)

end Go.Proofs.YtkmdkmlgahfcpaaDoor.M

namespace Go.Proofs.YtkmdkmlgahfcpaaDoor.M
open Go.RowKit Go.Proofs.YtkmdkmlgahfcpaaDoorW.PrintWords Go.Proofs.YtkmdkmlgahfcpaaDoorW.PrintLast Go.Proofs.YtkmdkmlgahfcpaaDoorW.PrintMore
attribute [local go_sem] max2_int min2_int max_two min_two max_three min_three max_four min_four   -- for this text's walks alone
set_option linter.unusedVariables false
set_option linter.unusedSimpArgs false

/-! ### impl_texts: function 46 -/
def impl_texts.l0 : Nat → List (List Int) → List (List Int) → Int → Int → Option ((List (List Int)))
  | 0, _, _, _, _ => none
  | k + 1, x3, x6, x7, x8 => if x8 < x7 then (if 0 ≤ x8 then (if x8 < (x6.length : Int) then ((some (([] : List Int) : List Int)).bind fun y136 => (if y136.length + (rd_L1 x6 x8).length < 140737488355328 then (if x3.length < 5864062014805 then (impl_texts.l0 k (x3 ++ [(y136 ++ (rd_L1 x6 x8))]) x6 x7 (wrap64 (x8 + 1))) else (none)) else (none))) else (none)) else (none)) else (some x3)
def impl_texts.f (k : Nat) (l0 : List (List Int)) : Option ((List (List Int))) := impl_texts.l0 k ([] : List (List Int)) l0 (l0.length : Int) 0
theorem impl_texts.mono_l : ∀ k, (∀ y0 y1 y2 y3, LeO (impl_texts.l0 k y0 y1 y2 y3) (impl_texts.l0 (k + 1) y0 y1 y2 y3))
  | 0 => fun _ _ _ _ r h => by simp [impl_texts.l0] at h
  | k + 1 => by
    have ih0 := impl_texts.mono_l k
    · intro y0 y1 y2 y3
      unfold impl_texts.l0
      repeat' first
      | (with_reducible exact ih0 _ _ _ _)
      | (with_reducible exact LeO.refl _)
      | (with_reducible exact LeO.none _)
      | (with_reducible refine LeO.ite ?_ ?_)
      | (with_reducible refine LeO.bind ?_ (fun _ => ?_))
      | exact ih0 _ _ _ _
      | exact LeO.none _
      | refine LeO.ite ?_ ?_
      | refine LeO.bind ?_ (fun _ => ?_)
theorem impl_texts.mono : ∀ a0 k, LeO (impl_texts.f k a0) (impl_texts.f (k + 1) a0) := by
  intro a0 k
  have ih0 := impl_texts.mono_l k
  unfold impl_texts.f
  repeat' first
      | (with_reducible exact ih0 _ _ _ _)
      | (with_reducible exact LeO.refl _)
      | (with_reducible exact LeO.none _)
      | (with_reducible refine LeO.ite ?_ ?_)
      | (with_reducible refine LeO.bind ?_ (fun _ => ?_))
      | exact ih0 _ _ _ _
      | exact LeO.none _
      | refine LeO.ite ?_ ?_
      | refine LeO.bind ?_ (fun _ => ?_)
set_option maxHeartbeats 8000000 in
set_option maxRecDepth 100000 in
theorem impl_texts.calls (k : Nat) (A0 : Option Addr) (c0 : Nat) (l0 : List (List Int)) (r : List (List Int)) (w : World) (hr0 : Kd.C (Kd.slice 5 (Kd.int .u8)) w A0 l0.length l0) (hc0 : l0.length ≤ c0) (h : impl_texts.f k l0 = some r) :
    Calls Tryd.prog 46 #[.slice A0 l0.length c0] w fun e w' => ∃ v0_ : Value, e = .returned (v0_) ∧ Kd.S (Kd.slice 5 (Kd.int .u8)) 27 w' w.heap.size (fun _ => True) v0_ r ∧ Below w.heap.size w w' := by
  have HR0 := Aside0.mk hr0
  have HC0 := Aside0.mk hc0
  clear hr0 hc0
  have HB := Aside0.mk (Below.refl w.heap.size w)
  have H : (impl_texts.l0 k ([] : List (List Int)) l0 (l0.length : Int) 0) = some r := h
  clear h
  have H' := Aside0.mk H
  clear H
  go_enter Tryd.func46, Tryd.ntmps46
  go_wp2
  go_loopg [3, 8] k (fun kq v3 v8 w' => ∃ (x3_1 : List (List Int)) (x8_1 : Int), v8 = .int .i64 x8_1 ∧ Aside0 (impl_texts.l0 kq x3_1 l0 (l0.length : Int) x8_1 = some r) ∧ Aside0 (kq ≤ k) ∧ Aside0 (Kd.S (Kd.slice 5 (Kd.int .u8)) 27 w' w.heap.size (fun _ => True) v3 x3_1) ∧ Aside0 (Below w.heap.size w w'))
  case atStart => exact ⟨(([] : List (List Int))), (0), (by first | rfl | (simp; done) | (simp [*]; done)), H', ⟨Nat.le_refl _⟩, ⟨by first | exact Kd.S_nil _ _ _ _ _ | exact Kd.N_nil _ _ _ _ _ | exact Kd.V_nil _ _ _ _ _ | exact Kd.Q_nil _ _ _ _ _ | exact Kd.R_nil _ _ _ _ _⟩, ⟨by repeat (first | (with_reducible first | exact HB.out | apply below_alloc | apply pw_below_drewN | apply below_drew1) | exact HB.out)⟩⟩
  case round =>
    clear H'
    obtain ⟨x3_1, x8_1, rfl, HA, HK1, HO_3, HB⟩ := hrel
    cases gk with
    | zero => exact absurd HA.out (by simp [impl_texts.l0])
    | succ k1 =>
      have H := HA.out
      clear HA
      simp only [impl_texts.l0] at H
      by_cases c2 : x8_1 < (l0.length : Int)
      · rw [if_pos c2] at H
        have c2b0 : decide (x8_1 < (l0.length : Int)) = true := decide_eq_true c2
        clear c2
        by_cases c3 : 0 ≤ x8_1
        · rw [if_pos c3] at H
          have c3b0 : decide (0 ≤ x8_1) = true := decide_eq_true c3
          clear c3
          by_cases c4 : x8_1 < (l0.length : Int)
          · rw [if_pos c4] at H
            have c4b0 : decide (x8_1 < (l0.length : Int)) = true := decide_eq_true c4
            clear c4
            obtain ⟨y136, hy136⟩ : ∃ y_ : List Int, y_ = (([] : List Int)) := ⟨_, rfl⟩
            replace H : (if y136.length + (rd_L1 l0 x8_1).length < 140737488355328 then (if x3_1.length < 5864062014805 then (impl_texts.l0 k1 (x3_1 ++ [(y136 ++ (rd_L1 l0 x8_1))]) l0 (l0.length : Int) (wrap64 (x8_1 + 1))) else (none)) else (none)) = some r := by first | (rw [hy136]; with_reducible exact H) | (have H2_ := (Option.bind_some _ _).symm.trans H; rw [hy136]; with_reducible exact H2_) | (have H2_ := (Option.bind_some _ _).symm.trans H; with_reducible exact H2_) | with_reducible exact H | (rw [hy136]; exact H) | exact H
            have Ny136 := Aside0.mk hy136
            clear hy136
            by_cases c5 : y136.length + (rd_L1 l0 x8_1).length < 140737488355328
            · rw [if_pos c5] at H
              have LMc5 := Aside0.mk c5
              clear c5
              obtain ⟨y139, hy139⟩ : ∃ y_ : List Int, y_ = (y136 ++ (rd_L1 l0 x8_1)) := ⟨_, rfl⟩
              replace H : (if x3_1.length < 5864062014805 then (impl_texts.l0 k1 (x3_1 ++ [y139]) l0 (l0.length : Int) (wrap64 (x8_1 + 1))) else (none)) = some r := by first | (rw [hy139]; with_reducible exact H) | (have H2_ := (Option.bind_some _ _).symm.trans H; rw [hy139]; with_reducible exact H2_) | (have H2_ := (Option.bind_some _ _).symm.trans H; with_reducible exact H2_) | with_reducible exact H | (rw [hy139]; exact H) | exact H
              have Ny139 := Aside0.mk hy139
              clear hy139
              by_cases c6 : x3_1.length < 5864062014805
              · rw [if_pos c6] at H
                have LMc6 := Aside0.mk c6
                clear c6
                obtain ⟨y142, hy142⟩ : ∃ y_ : List (List Int), y_ = (x3_1 ++ [y139]) := ⟨_, rfl⟩
                replace H : (impl_texts.l0 k1 y142 l0 (l0.length : Int) (wrap64 (x8_1 + 1))) = some r := by first | (rw [hy142]; with_reducible exact H) | (have H2_ := (Option.bind_some _ _).symm.trans H; rw [hy142]; with_reducible exact H2_) | (have H2_ := (Option.bind_some _ _).symm.trans H; with_reducible exact H2_) | with_reducible exact H | (rw [hy142]; exact H) | exact H
                have Ny142 := Aside0.mk hy142
                clear hy142
                have H' := Aside0.mk H
                clear H
                have p135 : 0 ≤ (x8_1 : Int) := of_decide_eq_true (by first | (with_reducible assumption) | assumption)
                have q135 : x8_1 < (l0.length : Int) := of_decide_eq_true (by first | (with_reducible assumption) | assumption)
                obtain ⟨ad135, A135_0, c135_0, e135, hx135_0, hl135_0, hi135_0⟩ := at_L1 HR0.out x8_1 p135 q135
                cases e135
                replace hx135_0 := (HB.out.cell (World.block_lt_of_cell? w _ hx135_0)).trans hx135_0
                have HR135_0 := Aside0.mk hi135_0
                have HC135_0 := Aside0.mk hl135_0
                clear hi135_0 hl135_0
                replace p135 := eq_true p135
                replace q135 := eq_true q135
                go_wp2_with (first | ((with_reducible refine gate_dst (N := 13) rfl ?_); refine Kd.R_lit (Kd.int .u8) _ 5 ?hg (N := 13) ?hd (xs := ([] : List Int)) (inner := []) (ok := fun _ => True) (okp := fun _ => True) ?hr ?hp (fun _ hk => hk) trivial (Below.refl _ _) (Nat.le_refl _) (by simp) ?_; (case hd => rfl); (case hg => rfl); (case hr => first | (go_simp; done) | (go_simp; rfl)); (case hp => exact (Reps.none _ _)); intro v137 w7 ho8 hb hg_ hnew_; clear hg_ hnew_; (first | rw [← Ny136.out] at ho8 | (simp only [Int.reduceToNat] at ho8; rw [← Ny136.out] at ho8)); have n0_ := Aside0.mk (Kd.S_elder' (by (with_reducible repeat (first | apply Kd.S_alloc | apply Kd.S_drewN | apply Kd.S_drew)); exact HO_3.out) (Kd.R_base ho8) hb); have n1_ := Aside0.mk (Kd.R_lower ho8 (below_size (by repeat (first | (with_reducible first | exact HB.out | apply below_alloc | apply pw_below_drewN | apply below_drew1) | exact HB.out)))); have n2_ := Aside0.mk (below_step (by repeat (first | (with_reducible first | exact HB.out | apply below_alloc | apply pw_below_drewN | apply below_drew1) | exact HB.out)) hb); clear HO_3; clear HB; have HO_3 := n0_; have HO138 := n1_; have HB := n2_; clear n0_ n1_ n2_; clear hb ho8) | ((with_reducible refine gate_builtin (b := .append) (xs := #[.tmp 13, .tmp 14]) rfl ?_); at_builtin; refine Kd.R_append_rows (Kd.int .u8) (w0 := w) w.heap.size rfl (.tmp 13) (.tmp 14) 27 5 (.int .u8 0) 1 rfl Tryd.underlying27 info5 rfl (by decide) (by omega) v137 y136 (rd_L1 l0 x8_1) _ _ _ (fun _ => True) (fun _ => False) rfl rfl ?aO ?aR (fun _ _ h => h) (fun _ h => h.elim) ?aF ?aB ?aS ?aL ?_; (case aR => repeat (first | exact (Kd.C_below HR135_0.out HB.out) | (with_reducible refine Kd.C_alloc ?_ _) | (with_reducible refine Kd.C_drewN ?_ _) | (with_reducible refine Kd.C_drew ?_))); (case aB => exact (by repeat (first | (with_reducible first | exact HB.out | apply below_alloc | apply pw_below_drewN | apply below_drew1) | exact HB.out))); (case aF => exact (fun _ _ => trivial)); (case aO => exact (by (with_reducible repeat (first | apply Kd.R_alloc | apply Kd.R_drewN | apply Kd.R_drew)); exact HO138.out)); (case aS => exact (below_size (by repeat (first | (with_reducible first | exact HB.out | apply below_alloc | apply pw_below_drewN | apply below_drew1) | exact HB.out)))); (case aL => have := LMc5.out; omega); intro v140 w9 ho hb hg hat; rw [← Ny139.out] at ho; have n0_ := Aside0.mk (Kd.S_after (ok := (fun _ => True)) (by (with_reducible repeat (first | apply Kd.S_alloc | apply Kd.S_drewN | apply Kd.S_drew)); exact HO_3.out) hg hat); have n1_ := Aside0.mk (hb); have n2_ := Aside0.mk (ho); clear HO_3; clear HB; clear HO138; have HO_3 := n0_; have HB := n1_; have HO141 := n2_; clear n0_ n1_ n2_; clear ho hb hg hat; obtain ⟨Ao11, co11, eo11⟩ := Kd.R_slice HO141.out; subst eo11) | ((with_reducible refine gate_builtin (b := .append) (xs := #[.tmp 12, .tmp 16]) rfl ?_); at_builtin; refine Kd.S_append (Kd.slice 5 (Kd.int .u8)) (w0 := w) w.heap.size rfl (.tmp 12) (.tmp 16) 25 27 (.slice none 0 0) 24 rfl Tryd.underlying25 info27 rfl (by decide) (by omega) u3 x3_1 y139 [.slice Ao11 y139.length co11] (fun _ => True) (fun k_ => some k_ = (.slice Ao11 y139.length co11 : Value).ownBlock) rfl rfl ?aP (fun k_ hk_ => ((Kd.R_mono (ok' := fun k_ => ((fun _ => True)) k_ ∧ some k_ ≠ (u3 : Value).ownBlock) (Kd.R_apart' (HO141.out) (Kd.S_typed HO_3.out) (by decide)) (fun k_ hk => ⟨trivial, hk.2⟩))).1 k_ hk_.symm) ?aF ?aO ?aB ?aS ?aL ?_; (case aP => exact Kd.M_row (Kd.R_mono (Kd.R_tight rfl (Kd.R_mono (ok' := fun k_ => ((fun _ => True)) k_ ∧ some k_ ≠ (u3 : Value).ownBlock) (Kd.R_apart' (HO141.out) (Kd.S_typed HO_3.out) (by decide)) (fun k_ hk => ⟨trivial, hk.2⟩))) (fun _ h_ => h_))); (case aB => exact (by repeat (first | (with_reducible first | exact HB.out | apply below_alloc | apply pw_below_drewN | apply below_drew1) | exact HB.out))); (case aF => exact (fun _ _ => trivial)); (case aO => exact (by (with_reducible repeat (first | apply Kd.S_alloc | apply Kd.S_drewN | apply Kd.S_drew)); exact Kd.S_mono HO_3.out (fun k_ hk => ⟨trivial, fun e_ => hk.2 e_⟩))); (case aS => exact (below_size (by repeat (first | (with_reducible first | exact HB.out | apply below_alloc | apply pw_below_drewN | apply below_drew1) | exact HB.out)))); (case aL => have := LMc6.out; omega); intro v143 w10 ho hb hg hat; rw [← Ny142.out] at ho; have n0_ := Aside0.mk (hb); have n1_ := Aside0.mk (ho); clear HB; clear HO_3; clear HO141; have HB := n0_; have HO144 := n1_; clear n0_ n1_; clear ho hb hg hat))
                go_roundg k1
                case measure => have := HK1.out; omega
                case rel => exact ⟨(y142), (wrap64 (x8_1 + 1)), (by first | rfl | (simp; done) | (simp [*]; done)), H', ⟨by have := HK1.out; omega⟩, ⟨by (with_reducible repeat (first | apply Kd.S_alloc | apply Kd.S_drewN | apply Kd.S_drew)); exact HO144.out⟩, ⟨by repeat (first | (with_reducible first | exact HB.out | apply below_alloc | apply pw_below_drewN | apply below_drew1) | exact HB.out)⟩⟩
              · rw [if_neg c6] at H
                exact absurd H (by simp)
            · rw [if_neg c5] at H
              exact absurd H (by simp)
          · rw [if_neg c4] at H
            exact absurd H (by simp)
        · rw [if_neg c3] at H
          exact absurd H (by simp)
      · rw [if_neg c2] at H
        have c2b0 : decide (x8_1 < (l0.length : Int)) = false := decide_eq_false c2
        clear c2
        obtain rfl := Option.some.inj H
        go_wp2
        go_ret
        exact ⟨_, by first | rfl | (simp [errW_none, errW_some] <;> rfl) | (simp [*, errW_none, errW_some] <;> rfl), by (with_reducible repeat (first | apply Kd.S_alloc | apply Kd.S_drewN | apply Kd.S_drew)); exact HO_3.out, by repeat (first | (with_reducible first | exact HB.out | apply below_alloc | apply pw_below_drewN | apply below_drew1) | exact HB.out)⟩

end Go.Proofs.YtkmdkmlgahfcpaaDoor.M

namespace Go.Proofs.YtkmdkmlgahfcpaaDoor.M
open Go.RowKit Go.Proofs.YtkmdkmlgahfcpaaDoorW.PrintWords Go.Proofs.YtkmdkmlgahfcpaaDoorW.PrintLast Go.Proofs.YtkmdkmlgahfcpaaDoorW.PrintMore
attribute [local go_sem] max2_int min2_int max_two min_two max_three min_three max_four min_four   -- for this text's walks alone
set_option linter.unusedVariables false
set_option linter.unusedSimpArgs false

/-! ### bits_TrailingZeros64: function 83 -/
set_option maxHeartbeats 1000000 in
theorem bits_TrailingZeros64.core (x k idx : Nat) (w : World) (hx0 : ((x : Int) == 0) = false)
    (key : IntKind.u64.wrap (bits BinOp.and IntKind.u64 (x : Int) (IntKind.u64.wrap (-(x : Int))) * 285870213051353865) / 288230376151711744 = (idx : Int))
    (hi : idx < 64) (hk : k < 64) (hcell : w.cell? ⟨0, idx, none⟩ = some (.int .u8 k)) :
    Calls Tryd.prog 83 #[.int .u64 x] w fun e w' => e = .returned (.int .i64 k) ∧ w' = w := by
  go_enter Tryd.func83, Tryd.ntmps83
  go_wp2_with (simp only [key])
  go_ret
  exact ⟨rfl, rfl⟩
theorem bits_TrailingZeros64.zero (w : World) :
    Calls Tryd.prog 83 #[.int .u64 0] w fun e w' => e = .returned (.int .i64 64) ∧ w' = w := by
  go_enter Tryd.func83, Tryd.ntmps83
  go_wp2
  go_ret
  exact ⟨rfl, rfl⟩
theorem bits_TrailingZeros64.any (x : Nat) (hx : x < 18446744073709551616) (w : World) (hT : TabOK w) :
    Calls Tryd.prog 83 #[.int .u64 x] w fun e w' => e = .returned (.int .i64 (Lib.ctz 64 x)) ∧ w' = w := by
  by_cases hx0 : x = 0
  · subst hx0
    exact bits_TrailingZeros64.zero w
  · obtain ⟨hlow, hk⟩ := Lib.lowest_bit 64 x hx0 hx
    obtain ⟨hi, htab⟩ := Lib.deBruijn64_at _ hk
    have hcell := hT.tz _ hi
    rw [htab] at hcell
    exact bits_TrailingZeros64.core x _ _ w (by simp; omega) (tz64_key x _ hx hx0 hlow) hi hk hcell
def bits_TrailingZeros64.f (a0 : Int) : Option (Int) := if 0 ≤ a0 ∧ a0 ≤ 18446744073709551615 then some (Lib.ctz 64 a0.toNat : Int) else none
theorem bits_TrailingZeros64.calls (a0 : Int) (r : Int) (w : World) (hT : TabOK w) (h : bits_TrailingZeros64.f a0 = some r) :
    Calls Tryd.prog 83 #[.int .u64 a0] w fun e w' => e = .returned (.int .i64 r) ∧ Drawn0 w w' := by
  unfold bits_TrailingZeros64.f at h
  split at h
  · rename_i hc
    injection h with h
    subst h
    obtain ⟨x, rfl⟩ : ∃ x : Nat, a0 = (x : Int) := ⟨a0.toNat, by omega⟩
    rw [Int.toNat_natCast]
    refine (bits_TrailingZeros64.any x (by omega) w hT).mono ?_
    rintro e w' ⟨rfl, rfl⟩
    exact ⟨rfl, Drawn0.refl _⟩
  · cases h

end Go.Proofs.YtkmdkmlgahfcpaaDoor.M

namespace Go.Proofs.YtkmdkmlgahfcpaaDoor.M
open Go.RowKit Go.Proofs.YtkmdkmlgahfcpaaDoorW.PrintWords Go.Proofs.YtkmdkmlgahfcpaaDoorW.PrintLast Go.Proofs.YtkmdkmlgahfcpaaDoorW.PrintMore
attribute [local go_sem] max2_int min2_int max_two min_two max_three min_three max_four min_four   -- for this text's walks alone
set_option linter.unusedVariables false
set_option linter.unusedSimpArgs false

/-! ### compact_NewNodeID: function 92 -/
def compact_NewNodeID.f (a0 : Int) (a1 : Int) : Option (Int × Int) := some (a0, a1)
set_option maxHeartbeats 8000000 in
set_option maxRecDepth 100000 in
theorem compact_NewNodeID.calls (a0 : Int) (a1 : Int) (r1 : Int) (r2 : Int) (w : World) (h : compact_NewNodeID.f a0 a1 = some (r1, r2)) :
    Calls Tryd.prog 92 #[.int .u64 a0, .int .u64 a1] w fun e w' => e = .returned (.agg #[.int .u64 r1, .int .u64 r2]) ∧ Below w.heap.size w w' := by
  have hu106 := Tryd.underlying106
  have HB := Aside0.mk (Below.refl w.heap.size w)
  have H : (some (a0, a1)) = some (r1, r2) := h
  clear h
  simp only [Option.some.injEq, Prod.mk.injEq] at H
  obtain ⟨rfl, rfl⟩ := H
  go_enter Tryd.func92, Tryd.ntmps92
  go_wp2_with (first | ((with_reducible refine gate_dst (N := 4) rfl ?_); refine box_event ?hg (N := 4) ?hd (cs := #[.int .u64 0, .int .u64 0]) (t := 106) ?hr ?_; (case hd => rfl); (case hg => rfl); (case hr => first | (go_simp; done) | (go_simp; rfl)); intro gb152 hg w3 hbox hb; have n0_ := Aside0.mk (below_step (by repeat (first | (with_reducible first | exact HB.out | apply below_alloc | apply pw_below_drewN | apply below_drew1) | exact HB.out)) hb); have n1_ := Aside0.mk (hbox); have n2_ := Aside0.mk ((by rw [hg]; exact (below_size (by repeat (first | (with_reducible first | exact HB.out | apply below_alloc | apply pw_below_drewN | apply below_drew1) | exact HB.out))) : w.heap.size ≤ gb152)); have n3_ := Aside0.mk ((by rw [hg]; exact (below_size (by repeat (first | (with_reducible first | exact HB.out | apply below_alloc | apply pw_below_drewN | apply below_drew1) | exact HB.out))) : w.heap.size ≤ gb152)); clear HB; have HB := n0_; have BK152 := n1_; have GW152 := n2_; have GE152 := n3_; clear n0_ n1_ n2_ n3_; clear hb hbox hg; have hcz4_0 : w3.cell? ⟨gb152, 0, none⟩ = some (.int .u64 0) := (blk_cell BK152.out 0).trans rfl; have hcz4_1 : w3.cell? ⟨gb152, 1, none⟩ = some (.int .u64 0) := (blk_cell BK152.out 1).trans rfl; have hfz4_0 := blk_frozen BK152.out 0; have hfz4_1 := blk_frozen BK152.out 1))
  refine bodyPost_ret (results_cell_row rfl _ _ gb152 106 #[.int .u64 a0, .int .u64 a1] (0, 0) _ rfl (by (with_reducible repeat (first | refine blk_drewN ?_ _ | refine blk_drew ?_ | refine blk_alloc ?_ _)); refine blk_put (cs := #[.int .u64 a0, .int .u64 0]) ?_ 1 _ rfl; (with_reducible repeat (first | refine blk_drewN ?_ _ | refine blk_drew ?_ | refine blk_alloc ?_ _)); refine blk_put (cs := #[.int .u64 0, .int .u64 0]) ?_ 0 _ rfl; (with_reducible repeat (first | refine blk_drewN ?_ _ | refine blk_drew ?_ | refine blk_alloc ?_ _)); exact BK152.out) Tryd.underlying106 rfl (by kernel_rfl)) rfl ?_
  exact ⟨by first | rfl | (simp [errW_none, errW_some] <;> rfl) | (simp [*, errW_none, errW_some] <;> rfl), by repeat (first | (with_reducible first | exact HB.out | apply below_alloc | apply pw_below_drewN | apply below_drew1 | refine below_set ?_ GE152.out) | exact HB.out)⟩

end Go.Proofs.YtkmdkmlgahfcpaaDoor.M

namespace Go.Proofs.YtkmdkmlgahfcpaaDoor.M
open Go.RowKit Go.Proofs.YtkmdkmlgahfcpaaDoorW.PrintWords Go.Proofs.YtkmdkmlgahfcpaaDoorW.PrintLast Go.Proofs.YtkmdkmlgahfcpaaDoorW.PrintMore
attribute [local go_sem] max2_int min2_int max_two min_two max_three min_three max_four min_four   -- for this text's walks alone
set_option linter.unusedVariables false
set_option linter.unusedSimpArgs false

/-! ### compact_RangeNodes: function 79 -/
mutual
def compact_RangeNodes.l0 : Nat → List (S106) → Int → Int → Int → Option ((List (S106)))
  | 0, _, _, _, _ => none
  | k + 1, x2, x7, x8, x9 => if x7 = 0 then (compact_RangeNodes.l1 k x2 x8 x9) else ((bits_TrailingZeros64.f x7).bind fun t156 => (if 0 ≤ (IntKind.u64.wrap (t156)) then ((compact_NewNodeID.f (IntKind.u64.wrap (t156)) (shr .u64 x9 (IntKind.u64.wrap (t156)))).bind fun bt157 => (if x2.length < 8796093022208 then (compact_RangeNodes.l0 k (x2 ++ [(⟨bt157.1, bt157.2⟩ : S106)]) (Go.bits .xor .u64 x7 (shl .u64 1 (IntKind.u64.wrap (t156)))) x8 (IntKind.u64.wrap (x9 + (shl .u64 1 (IntKind.u64.wrap (t156)))))) else (none))) else (none)))
def compact_RangeNodes.l1 : Nat → List (S106) → Int → Int → Option ((List (S106)))
  | 0, _, _, _ => none
  | k + 1, x2, x8, x9 => if x8 = 0 then (some x2) else ((bits_Len64.f x8).bind fun t162 => (if 0 ≤ (IntKind.u64.wrap ((IntKind.u64.wrap (t162)) - 1)) then ((compact_NewNodeID.f (IntKind.u64.wrap ((IntKind.u64.wrap (t162)) - 1)) (shr .u64 x9 (IntKind.u64.wrap ((IntKind.u64.wrap (t162)) - 1)))).bind fun bt163 => (if x2.length < 8796093022208 then (compact_RangeNodes.l1 k (x2 ++ [(⟨bt163.1, bt163.2⟩ : S106)]) (Go.bits .xor .u64 x8 (shl .u64 1 (IntKind.u64.wrap ((IntKind.u64.wrap (t162)) - 1)))) (IntKind.u64.wrap (x9 + (shl .u64 1 (IntKind.u64.wrap ((IntKind.u64.wrap (t162)) - 1)))))) else (none))) else (none)))
end
def compact_RangeNodes.f (k : Nat) (a0 : Int) (a1 : Int) (l2 : List (S106)) : Option ((List (S106))) := (compact_Decompose.f a0 a1).bind fun bt154 => (compact_RangeNodes.l0 k l2 bt154.1 bt154.2 a0)
theorem compact_RangeNodes.mono_l : ∀ k, (∀ y0 y1 y2 y3, LeO (compact_RangeNodes.l0 k y0 y1 y2 y3) (compact_RangeNodes.l0 (k + 1) y0 y1 y2 y3)) ∧ (∀ y0 y1 y2, LeO (compact_RangeNodes.l1 k y0 y1 y2) (compact_RangeNodes.l1 (k + 1) y0 y1 y2))
  | 0 => ⟨fun _ _ _ _ r h => by simp [compact_RangeNodes.l0] at h, fun _ _ _ r h => by simp [compact_RangeNodes.l1] at h⟩
  | k + 1 => by
    obtain ⟨ih0, ih1⟩ := compact_RangeNodes.mono_l k
    refine ⟨?_, ?_⟩
    · intro y0 y1 y2 y3
      unfold compact_RangeNodes.l0
      repeat' first
      | (with_reducible exact ih0 _ _ _ _)
      | (with_reducible exact ih1 _ _ _)
      | (with_reducible exact LeO.refl _)
      | (with_reducible exact LeO.none _)
      | (with_reducible refine LeO.ite ?_ ?_)
      | (with_reducible refine LeO.bind ?_ (fun _ => ?_))
      | exact ih0 _ _ _ _
      | exact ih1 _ _ _
      | exact LeO.none _
      | refine LeO.ite ?_ ?_
      | refine LeO.bind ?_ (fun _ => ?_)
    · intro y0 y1 y2
      unfold compact_RangeNodes.l1
      repeat' first
      | (with_reducible exact ih0 _ _ _ _)
      | (with_reducible exact ih1 _ _ _)
      | (with_reducible exact LeO.refl _)
      | (with_reducible exact LeO.none _)
      | (with_reducible refine LeO.ite ?_ ?_)
      | (with_reducible refine LeO.bind ?_ (fun _ => ?_))
      | exact ih0 _ _ _ _
      | exact ih1 _ _ _
      | exact LeO.none _
      | refine LeO.ite ?_ ?_
      | refine LeO.bind ?_ (fun _ => ?_)
theorem compact_RangeNodes.mono : ∀ a0 a1 a2 k, LeO (compact_RangeNodes.f k a0 a1 a2) (compact_RangeNodes.f (k + 1) a0 a1 a2) := by
  intro a0 a1 a2 k
  obtain ⟨ih0, ih1⟩ := compact_RangeNodes.mono_l k
  unfold compact_RangeNodes.f
  repeat' first
      | (with_reducible exact ih0 _ _ _ _)
      | (with_reducible exact ih1 _ _ _)
      | (with_reducible exact LeO.refl _)
      | (with_reducible exact LeO.none _)
      | (with_reducible refine LeO.ite ?_ ?_)
      | (with_reducible refine LeO.bind ?_ (fun _ => ?_))
      | exact ih0 _ _ _ _
      | exact ih1 _ _ _
      | exact LeO.none _
      | refine LeO.ite ?_ ?_
      | refine LeO.bind ?_ (fun _ => ?_)
set_option maxHeartbeats 8000000 in
set_option maxRecDepth 100000 in
theorem compact_RangeNodes.calls (k : Nat) (a0 : Int) (a1 : Int) (P2_ : Nat → Prop) (u9000_ : Value) (l2 : List (S106)) (r : List (S106)) (w0 w : World) (hT : TabOK w0) (hB : Below w0.heap.size w0 w) (ho2 : Kd.R k106 106 w w0.heap.size P2_ u9000_ l2) (h : compact_RangeNodes.f k a0 a1 l2 = some r) :
    Calls Tryd.prog 79 #[.int .u64 a0, .int .u64 a1, u9000_] w fun e w' => ∃ v0_ : Value, e = .returned (v0_) ∧ Kd.R k106 106 w' w0.heap.size (fun k_ => (P2_ k_ ∨ w.heap.size ≤ k_)) v0_ r ∧ Below w0.heap.size w0 w' ∧ Kept w w' (fun k_ => P2_ k_) := by
  have HT := Aside0.mk hT
  clear hT
  have HO2 := Aside0.mk (show Kd.R k106 106 w w0.heap.size (fun k_ => (P2_ k_ ∨ w.heap.size ≤ k_)) u9000_ l2 from Kd.R_mono ho2 (fun k_ hk => (.inl hk)))
  have HK := Aside0.mk (Kept.refl w (fun k_ => P2_ k_))
  have HW0 := Aside0.mk hB.size
  have HB := Aside0.mk hB
  clear hB
  have H : ((compact_Decompose.f a0 a1).bind fun bt154 => (compact_RangeNodes.l0 k l2 bt154.1 bt154.2 a0)) = some r := h
  clear h
  replace H := Option.bind_eq_some_iff.mp H
  obtain ⟨⟨t154, t155⟩, A40, H⟩ := H
  replace H : (compact_RangeNodes.l0 k l2 t154 t155 a0) = some r := H
  have A4 := Aside0.mk A40
  clear A40
  have H' := Aside0.mk H
  clear H
  go_enter Tryd.func79, Tryd.ntmps79
  go_wp2_with (first | ((with_reducible refine gate_callee (f := 108) rfl ?_); refine goesL_ (some 17) rfl rfl Tryd.func108 (by kernel_rfl) rfl #[.int .u64 a0, .int .u64 a1] rfl (by (try simp only [List.map_toArray, List.map_cons, List.map_nil]); first | done | rfl | (simp only [List.length_drop, List.length_take]; rfl)) ?_; (with_reducible refine (compact_Decompose.calls a0 a1 t154 t155 _ A4.out).mono ?_); rintro e w' ⟨rfl, ⟨nd, rfl⟩⟩; refine ⟨_, rfl, ?_⟩))
  go_loopg [2, 7, 9] k (fun kq v2 v7 v9 w' => ∃ (x2_1 : List (S106)) (x7_1 : Int) (x9_1 : Int), v7 = .int .u64 x7_1 ∧ v9 = .int .u64 x9_1 ∧ Aside0 (compact_RangeNodes.l0 kq x2_1 x7_1 t155 x9_1 = some r) ∧ Aside0 (kq ≤ k) ∧ Aside0 (Kd.R k106 106 w' w0.heap.size (fun k_ => (P2_ k_ ∨ w.heap.size ≤ k_)) v2 x2_1) ∧ Aside0 (Kept w w' (fun k_ => P2_ k_)) ∧ Aside0 (Below w0.heap.size w0 w'))
  case atStart => exact ⟨(l2), (t154), (a0), (by first | rfl | (simp; done) | (simp [*]; done)), (by first | rfl | (simp; done) | (simp [*]; done)), H', ⟨Nat.le_refl _⟩, ⟨by (with_reducible repeat (first | apply Kd.R_alloc | apply Kd.R_drewN | apply Kd.R_drew)); exact HO2.out⟩, ⟨by repeat (first | (with_reducible first | exact HK.out | apply Kept.alloc | apply Kept.drewN | apply Kept.drew) | exact HK.out)⟩, ⟨by repeat (first | (with_reducible first | exact HB.out | apply below_alloc | apply pw_below_drewN | apply below_drew1) | exact HB.out)⟩⟩
  case round =>
    clear H'
    try clear c1
    try clear p2
    obtain ⟨x2_1, x7_1, x9_1, rfl, rfl, HA, HK1, HO_2, HK, HB⟩ := hrel
    cases gk with
    | zero => exact absurd HA.out (by simp [compact_RangeNodes.l0])
    | succ k1 =>
      have H := HA.out
      clear HA
      simp only [compact_RangeNodes.l0] at H
      by_cases c5 : x7_1 = 0
      · rw [if_pos c5] at H
        have c5b0 : (x7_1 == 0) = true := beq_iff_eq.mpr c5
        have c5b1 : (x7_1 != 0) = false := bne_eq_false_iff_eq.mpr c5
        clear c5
        have H' := Aside0.mk H
        clear H
        go_wp2
        go_loopg [2, 8, 9] k1 (fun kq v2 v8 v9 w' => ∃ (x2_2 : List (S106)) (x8_2 : Int) (x9_2 : Int), v8 = .int .u64 x8_2 ∧ v9 = .int .u64 x9_2 ∧ Aside0 (compact_RangeNodes.l1 kq x2_2 x8_2 x9_2 = some r) ∧ Aside0 (kq ≤ k1) ∧ Aside0 (Kd.R k106 106 w' w0.heap.size (fun k_ => (P2_ k_ ∨ w.heap.size ≤ k_)) v2 x2_2) ∧ Aside0 (Kept w w' (fun k_ => P2_ k_)) ∧ Aside0 (Below w0.heap.size w0 w'))
        case atStart => exact ⟨(x2_1), (t155), (x9_1), (by first | rfl | (simp; done) | (simp [*]; done)), (by first | rfl | (simp; done) | (simp [*]; done)), H', ⟨Nat.le_refl _⟩, ⟨by (with_reducible repeat (first | apply Kd.R_alloc | apply Kd.R_drewN | apply Kd.R_drew)); exact HO_2.out⟩, ⟨by repeat (first | (with_reducible first | exact HK.out | apply Kept.alloc | apply Kept.drewN | apply Kept.drew) | exact HK.out)⟩, ⟨by repeat (first | (with_reducible first | exact HB.out | apply below_alloc | apply pw_below_drewN | apply below_drew1) | exact HB.out)⟩⟩
        case round =>
          clear H'
          try clear c1
          try clear p2
          try clear c5
          try clear c5b0
          try clear c5b1
          try clear p2
          obtain ⟨x2_2, x8_2, x9_2, rfl, rfl, HA, HK2, HO_2, HK, HB⟩ := hrel
          cases gk with
          | zero => exact absurd HA.out (by simp [compact_RangeNodes.l1])
          | succ k2 =>
            have H := HA.out
            clear HA
            simp only [compact_RangeNodes.l1] at H
            by_cases c6 : x8_2 = 0
            · rw [if_pos c6] at H
              have c6b0 : (x8_2 == 0) = true := beq_iff_eq.mpr c6
              have c6b1 : (x8_2 != 0) = false := bne_eq_false_iff_eq.mpr c6
              clear c6
              obtain rfl := Option.some.inj H
              go_wp2
              go_ret
              exact ⟨_, by first | rfl | (simp [errW_none, errW_some] <;> rfl) | (simp [*, errW_none, errW_some] <;> rfl), by (with_reducible repeat (first | apply Kd.R_alloc | apply Kd.R_drewN | apply Kd.R_drew)); exact HO_2.out, by repeat (first | (with_reducible first | exact HB.out | apply below_alloc | apply pw_below_drewN | apply below_drew1) | exact HB.out), by repeat (first | (with_reducible first | exact HK.out | apply Kept.alloc | apply Kept.drewN | apply Kept.drew) | exact HK.out)⟩
            · rw [if_neg c6] at H
              have c6b0 : (x8_2 == 0) = false := beq_eq_false_iff_ne.mpr c6
              have c6b1 : (x8_2 != 0) = true := bne_iff_ne.mpr c6
              replace H := Option.bind_eq_some_iff.mp H
              obtain ⟨t162, A70, H⟩ := H
              replace H : (if 0 ≤ (IntKind.u64.wrap ((IntKind.u64.wrap (t162)) - 1)) then ((compact_NewNodeID.f (IntKind.u64.wrap ((IntKind.u64.wrap (t162)) - 1)) (shr .u64 x9_2 (IntKind.u64.wrap ((IntKind.u64.wrap (t162)) - 1)))).bind fun bt163 => (if x2_2.length < 8796093022208 then (compact_RangeNodes.l1 k2 (x2_2 ++ [(⟨bt163.1, bt163.2⟩ : S106)]) (Go.bits .xor .u64 x8_2 (shl .u64 1 (IntKind.u64.wrap ((IntKind.u64.wrap (t162)) - 1)))) (IntKind.u64.wrap (x9_2 + (shl .u64 1 (IntKind.u64.wrap ((IntKind.u64.wrap (t162)) - 1)))))) else (none))) else (none)) = some r := H
              have A7 := Aside0.mk A70
              clear A70
              obtain ⟨ji8, hji8⟩ : ∃ j_ : Int, (IntKind.u64.wrap ((IntKind.u64.wrap (t162)) - 1)) = j_ := ⟨_, rfl⟩
              replace H : (if 0 ≤ (ji8) then ((compact_NewNodeID.f (ji8) (shr .u64 x9_2 (ji8))).bind fun bt163 => (if x2_2.length < 8796093022208 then (compact_RangeNodes.l1 k2 (x2_2 ++ [(⟨bt163.1, bt163.2⟩ : S106)]) (Go.bits .xor .u64 x8_2 (shl .u64 1 (ji8))) (IntKind.u64.wrap (x9_2 + (shl .u64 1 (ji8))))) else (none))) else (none)) = some r := by first | (rw [hji8] at H; exact H) | (simp only [hji8] at H ⊢; exact H)
              (try rw [hji8] at A7)
              by_cases c9 : 0 ≤ (ji8)
              · rw [if_pos c9] at H
                have c9b0 := eq_true c9
                have c9b1 : decide (0 ≤ (ji8)) = true := decide_eq_true c9
                clear c9
                obtain ⟨ji10, hji10⟩ : ∃ j_ : Int, (shl .u64 1 (ji8)) = j_ := ⟨_, rfl⟩
                replace H : ((compact_NewNodeID.f (ji8) (shr .u64 x9_2 (ji8))).bind fun bt163 => (if x2_2.length < 8796093022208 then (compact_RangeNodes.l1 k2 (x2_2 ++ [(⟨bt163.1, bt163.2⟩ : S106)]) (Go.bits .xor .u64 x8_2 (ji10)) (IntKind.u64.wrap (x9_2 + (ji10)))) else (none))) = some r := by first | (rw [hji10] at H; exact H) | (simp only [hji10] at H ⊢; exact H)
                (try rw [hji10] at A7)
                have hji10_ : (IntKind.u64.wrap (1 * 2 ^ min (ji8).toNat 64)) = ji10 := hji10
                have hji10z : (ji8) ≤ 64 → (IntKind.u64.wrap (1 * 2 ^ (ji8).toNat)) = ji10 := shl_small hji10
                have hji10u : (IntKind.u64.wrap (2 ^ min (ji8).toNat 64)) = ji10 := by have h_ := hji10_; rw [Int.one_mul] at h_; exact h_
                have hji10v : (ji8) ≤ 64 → (IntKind.u64.wrap (2 ^ (ji8).toNat)) = ji10 := fun hle_ => by have h_ := hji10z hle_; rw [Int.one_mul] at h_; exact h_
                have c11b0 := eq_true (of_decide_eq_true (by first | (with_reducible assumption) | assumption) : 0 ≤ (ji8))
                obtain ⟨ji12, hji12⟩ : ∃ j_ : Int, (shr .u64 x9_2 (ji8)) = j_ := ⟨_, rfl⟩
                replace H : ((compact_NewNodeID.f (ji8) (ji12)).bind fun bt163 => (if x2_2.length < 8796093022208 then (compact_RangeNodes.l1 k2 (x2_2 ++ [(⟨bt163.1, bt163.2⟩ : S106)]) (Go.bits .xor .u64 x8_2 (ji10)) (IntKind.u64.wrap (x9_2 + (ji10)))) else (none))) = some r := by first | (rw [hji12] at H; exact H) | (simp only [hji12] at H ⊢; exact H)
                (try rw [hji12] at A7)
                have hji12_ : (x9_2 / 2 ^ min (ji8).toNat 64) = ji12 := hji12
                have hji12z : (ji8) ≤ 64 → (x9_2 / 2 ^ (ji8).toNat) = ji12 := shr_small hji12
                replace H := Option.bind_eq_some_iff.mp H
                obtain ⟨⟨t163, t164⟩, A130, H⟩ := H
                replace H : (if x2_2.length < 8796093022208 then (compact_RangeNodes.l1 k2 (x2_2 ++ [(⟨t163, t164⟩ : S106)]) (Go.bits .xor .u64 x8_2 (ji10)) (IntKind.u64.wrap (x9_2 + (ji10)))) else (none)) = some r := H
                have A13 := Aside0.mk A130
                clear A130
                by_cases c14 : x2_2.length < 8796093022208
                · rw [if_pos c14] at H
                  have LMc14 := Aside0.mk c14
                  clear c14
                  obtain ⟨y165, hy165⟩ : ∃ y_ : List (S106), y_ = (x2_2 ++ [(⟨t163, t164⟩ : S106)]) := ⟨_, rfl⟩
                  replace H : (compact_RangeNodes.l1 k2 y165 (Go.bits .xor .u64 x8_2 (ji10)) (IntKind.u64.wrap (x9_2 + (ji10)))) = some r := by first | (rw [hy165]; with_reducible exact H) | (have H2_ := (Option.bind_some _ _).symm.trans H; rw [hy165]; with_reducible exact H2_) | (have H2_ := (Option.bind_some _ _).symm.trans H; with_reducible exact H2_) | with_reducible exact H | (rw [hy165]; exact H) | exact H
                  have Ny165 := Aside0.mk hy165
                  clear hy165
                  have H' := Aside0.mk H
                  clear H
                  go_wp2_with (first | ((with_reducible refine gate_callee (f := 109) rfl ?_); refine goesL_ (some 51) rfl rfl Tryd.func109 (by kernel_rfl) rfl #[.int .u64 x8_2] rfl (by (try simp only [List.map_toArray, List.map_cons, List.map_nil]); first | done | rfl | (simp only [List.length_drop, List.length_take]; rfl)) ?_; (with_reducible refine (bits_Len64.calls x8_2 t162 _ A7.out).mono ?_); rintro e w' ⟨rfl, ⟨nd, rfl⟩⟩; refine ⟨_, rfl, ?_⟩) | ((with_reducible refine gate_callee (f := 92) rfl ?_); refine goesL_ (some 61) rfl rfl Tryd.func92 (by kernel_rfl) rfl #[.int .u64 ji8, .int .u64 ji12] rfl (by (try simp only [List.map_toArray, List.map_cons, List.map_nil]); first | done | (simp only [hji12, hji8]; rfl) | rfl | (simp only [List.length_drop, List.length_take]; rfl)) ?_; (with_reducible refine (compact_NewNodeID.calls ji8 ji12 t163 t164 _ A13.out).mono ?_); rintro e w15 ⟨rfl, hb⟩; refine ⟨_, rfl, ?_⟩; have n0_ := Aside0.mk (Kd.R_below (by (with_reducible repeat (first | apply Kd.R_alloc | apply Kd.R_drewN | apply Kd.R_drew)); exact HO_2.out) hb); have n1_ := Aside0.mk (Kept.below (S := (fun k_ => P2_ k_)) (by repeat (first | (with_reducible first | exact HK.out | apply Kept.alloc | apply Kept.drewN | apply Kept.drew) | exact HK.out)) hb); have n2_ := Aside0.mk (below_step (by repeat (first | (with_reducible first | exact HB.out | apply below_alloc | apply pw_below_drewN | apply below_drew1) | exact HB.out)) hb); clear HO_2; clear HK; clear HB; have HO_2 := n0_; have HK := n1_; have HB := n2_; clear n0_ n1_ n2_; (try clear hb); (try clear hb2); (try clear hk); (try clear hi)) | ((with_reducible refine gate_builtin (b := .append) (xs := #[.tmp 56, .tmp 62]) rfl ?_); at_builtin; refine Kd.R_append k106 (w0 := w0) w0.heap.size rfl (.tmp 56) (.tmp 62) 120 106 (.agg #[(.int .u64 0), (.int .u64 0)]) 16 rfl Tryd.underlying120 info106 rfl (by decide) (by omega) u2 x2_2 (⟨t163, t164⟩ : S106) [.int .u64 t163, .int .u64 t164] (fun k_ => (P2_ k_ ∨ w.heap.size ≤ k_)) (fun _ => False) rfl rfl ?aP (fun _ hk => hk.elim) ?aF ?aO ?aB ?aS ?aL ?_; (case aP => exact k106_mkM _ _ _ (⟨t163, t164⟩ : S106)); (case aB => exact (by repeat (first | (with_reducible first | exact HB.out | apply below_alloc | apply pw_below_drewN | apply below_drew1) | exact HB.out))); (case aF => exact (fun k_ hk => (.inr (Nat.le_trans (by first | exact HK.out.1 | exact (show Kept w _ (fun k_ => P2_ k_) from by repeat (first | (with_reducible first | exact HK.out | apply Kept.alloc | apply Kept.drewN | apply Kept.drew) | exact HK.out)).1) hk)))); (case aO => exact (by (with_reducible repeat (first | apply Kd.R_alloc | apply Kd.R_drewN | apply Kd.R_drew)); exact HO_2.out)); (case aS => exact (below_size (by repeat (first | (with_reducible first | exact HB.out | apply below_alloc | apply pw_below_drewN | apply below_drew1) | exact HB.out)))); (case aL => have := LMc14.out; omega); intro v166 w16 ho hb hg hat; rw [← Ny165.out] at ho; have n0_ := Aside0.mk (hb); have n1_ := Aside0.mk (Kept.of_grown (S := (fun k_ => P2_ k_)) hg (by repeat (first | (with_reducible first | exact HK.out | apply Kept.alloc | apply Kept.drewN | apply Kept.drew) | exact HK.out)) (fun k_ e_ => (HO_2.out.1 k_ e_))); have n2_ := Aside0.mk (ho); clear HB; clear HK; clear HO_2; have HB := n0_; have HK := n1_; have HO167 := n2_; clear n0_ n1_ n2_; clear ho hb hg hat))
                  go_roundg k2
                  case measure => have := HK1.out; have := HK2.out; omega
                  case rel => exact ⟨(y165), (Go.bits .xor .u64 x8_2 (ji10)), (IntKind.u64.wrap (x9_2 + (ji10))), (by first | rfl | (simp; done) | (simp only [← hji10] <;> (first | rfl | simp)) | (simp [*]; done)), (by first | rfl | (simp; done) | (simp only [← hji10] <;> (first | rfl | simp)) | (simp [*]; done)), H', ⟨by have := HK1.out; have := HK2.out; omega⟩, ⟨by (with_reducible repeat (first | apply Kd.R_alloc | apply Kd.R_drewN | apply Kd.R_drew)); exact HO167.out⟩, ⟨by repeat (first | (with_reducible first | exact HK.out | apply Kept.alloc | apply Kept.drewN | apply Kept.drew) | exact HK.out)⟩, ⟨by repeat (first | (with_reducible first | exact HB.out | apply below_alloc | apply pw_below_drewN | apply below_drew1) | exact HB.out)⟩⟩
                · rw [if_neg c14] at H
                  exact absurd H (by simp)
              · rw [if_neg c9] at H
                exact absurd H (by simp)
      · rw [if_neg c5] at H
        have c5b0 : (x7_1 == 0) = false := beq_eq_false_iff_ne.mpr c5
        have c5b1 : (x7_1 != 0) = true := bne_iff_ne.mpr c5
        replace H := Option.bind_eq_some_iff.mp H
        obtain ⟨t156, A170, H⟩ := H
        replace H : (if 0 ≤ (IntKind.u64.wrap (t156)) then ((compact_NewNodeID.f (IntKind.u64.wrap (t156)) (shr .u64 x9_1 (IntKind.u64.wrap (t156)))).bind fun bt157 => (if x2_1.length < 8796093022208 then (compact_RangeNodes.l0 k1 (x2_1 ++ [(⟨bt157.1, bt157.2⟩ : S106)]) (Go.bits .xor .u64 x7_1 (shl .u64 1 (IntKind.u64.wrap (t156)))) t155 (IntKind.u64.wrap (x9_1 + (shl .u64 1 (IntKind.u64.wrap (t156)))))) else (none))) else (none)) = some r := H
        have A17 := Aside0.mk A170
        clear A170
        obtain ⟨ji18, hji18⟩ : ∃ j_ : Int, (IntKind.u64.wrap (t156)) = j_ := ⟨_, rfl⟩
        replace H : (if 0 ≤ (ji18) then ((compact_NewNodeID.f (ji18) (shr .u64 x9_1 (ji18))).bind fun bt157 => (if x2_1.length < 8796093022208 then (compact_RangeNodes.l0 k1 (x2_1 ++ [(⟨bt157.1, bt157.2⟩ : S106)]) (Go.bits .xor .u64 x7_1 (shl .u64 1 (ji18))) t155 (IntKind.u64.wrap (x9_1 + (shl .u64 1 (ji18))))) else (none))) else (none)) = some r := by first | (rw [hji18] at H; exact H) | (simp only [hji18] at H ⊢; exact H)
        (try rw [hji18] at A17)
        by_cases c19 : 0 ≤ (ji18)
        · rw [if_pos c19] at H
          have c19b0 := eq_true c19
          have c19b1 : decide (0 ≤ (ji18)) = true := decide_eq_true c19
          clear c19
          obtain ⟨ji20, hji20⟩ : ∃ j_ : Int, (shl .u64 1 (ji18)) = j_ := ⟨_, rfl⟩
          replace H : ((compact_NewNodeID.f (ji18) (shr .u64 x9_1 (ji18))).bind fun bt157 => (if x2_1.length < 8796093022208 then (compact_RangeNodes.l0 k1 (x2_1 ++ [(⟨bt157.1, bt157.2⟩ : S106)]) (Go.bits .xor .u64 x7_1 (ji20)) t155 (IntKind.u64.wrap (x9_1 + (ji20)))) else (none))) = some r := by first | (rw [hji20] at H; exact H) | (simp only [hji20] at H ⊢; exact H)
          (try rw [hji20] at A17)
          have hji20_ : (IntKind.u64.wrap (1 * 2 ^ min (ji18).toNat 64)) = ji20 := hji20
          have hji20z : (ji18) ≤ 64 → (IntKind.u64.wrap (1 * 2 ^ (ji18).toNat)) = ji20 := shl_small hji20
          have hji20u : (IntKind.u64.wrap (2 ^ min (ji18).toNat 64)) = ji20 := by have h_ := hji20_; rw [Int.one_mul] at h_; exact h_
          have hji20v : (ji18) ≤ 64 → (IntKind.u64.wrap (2 ^ (ji18).toNat)) = ji20 := fun hle_ => by have h_ := hji20z hle_; rw [Int.one_mul] at h_; exact h_
          have c21b0 := eq_true (of_decide_eq_true (by first | (with_reducible assumption) | assumption) : 0 ≤ (ji18))
          obtain ⟨ji22, hji22⟩ : ∃ j_ : Int, (shr .u64 x9_1 (ji18)) = j_ := ⟨_, rfl⟩
          replace H : ((compact_NewNodeID.f (ji18) (ji22)).bind fun bt157 => (if x2_1.length < 8796093022208 then (compact_RangeNodes.l0 k1 (x2_1 ++ [(⟨bt157.1, bt157.2⟩ : S106)]) (Go.bits .xor .u64 x7_1 (ji20)) t155 (IntKind.u64.wrap (x9_1 + (ji20)))) else (none))) = some r := by first | (rw [hji22] at H; exact H) | (simp only [hji22] at H ⊢; exact H)
          (try rw [hji22] at A17)
          have hji22_ : (x9_1 / 2 ^ min (ji18).toNat 64) = ji22 := hji22
          have hji22z : (ji18) ≤ 64 → (x9_1 / 2 ^ (ji18).toNat) = ji22 := shr_small hji22
          replace H := Option.bind_eq_some_iff.mp H
          obtain ⟨⟨t157, t158⟩, A230, H⟩ := H
          replace H : (if x2_1.length < 8796093022208 then (compact_RangeNodes.l0 k1 (x2_1 ++ [(⟨t157, t158⟩ : S106)]) (Go.bits .xor .u64 x7_1 (ji20)) t155 (IntKind.u64.wrap (x9_1 + (ji20)))) else (none)) = some r := H
          have A23 := Aside0.mk A230
          clear A230
          by_cases c24 : x2_1.length < 8796093022208
          · rw [if_pos c24] at H
            have LMc24 := Aside0.mk c24
            clear c24
            obtain ⟨y159, hy159⟩ : ∃ y_ : List (S106), y_ = (x2_1 ++ [(⟨t157, t158⟩ : S106)]) := ⟨_, rfl⟩
            replace H : (compact_RangeNodes.l0 k1 y159 (Go.bits .xor .u64 x7_1 (ji20)) t155 (IntKind.u64.wrap (x9_1 + (ji20)))) = some r := by first | (rw [hy159]; with_reducible exact H) | (have H2_ := (Option.bind_some _ _).symm.trans H; rw [hy159]; with_reducible exact H2_) | (have H2_ := (Option.bind_some _ _).symm.trans H; with_reducible exact H2_) | with_reducible exact H | (rw [hy159]; exact H) | exact H
            have Ny159 := Aside0.mk hy159
            clear hy159
            have H' := Aside0.mk H
            clear H
            go_wp2_with (first | ((with_reducible refine gate_callee (f := 83) rfl ?_); refine goesL_ (some 30) rfl rfl Tryd.func83 (by kernel_rfl) rfl #[.int .u64 x7_1] rfl (by (try simp only [List.map_toArray, List.map_cons, List.map_nil]); first | done | rfl | (simp only [List.length_drop, List.length_take]; rfl)) ?_; (with_reducible refine (bits_TrailingZeros64.calls x7_1 t156 _ ?side1 A17.out).mono ?_); (case side1 => exact TabOK.below HT.out (by repeat (first | (with_reducible first | exact HB.out | apply below_alloc | apply pw_below_drewN | apply below_drew1) | exact HB.out))); rintro e w' ⟨rfl, ⟨nd, rfl⟩⟩; refine ⟨_, rfl, ?_⟩) | ((with_reducible refine gate_callee (f := 92) rfl ?_); refine goesL_ (some 39) rfl rfl Tryd.func92 (by kernel_rfl) rfl #[.int .u64 ji18, .int .u64 ji22] rfl (by (try simp only [List.map_toArray, List.map_cons, List.map_nil]); first | done | (simp only [hji18, hji22]; rfl) | rfl | (simp only [List.length_drop, List.length_take]; rfl)) ?_; (with_reducible refine (compact_NewNodeID.calls ji18 ji22 t157 t158 _ A23.out).mono ?_); rintro e w25 ⟨rfl, hb⟩; refine ⟨_, rfl, ?_⟩; have n0_ := Aside0.mk (Kd.R_below (by (with_reducible repeat (first | apply Kd.R_alloc | apply Kd.R_drewN | apply Kd.R_drew)); exact HO_2.out) hb); have n1_ := Aside0.mk (Kept.below (S := (fun k_ => P2_ k_)) (by repeat (first | (with_reducible first | exact HK.out | apply Kept.alloc | apply Kept.drewN | apply Kept.drew) | exact HK.out)) hb); have n2_ := Aside0.mk (below_step (by repeat (first | (with_reducible first | exact HB.out | apply below_alloc | apply pw_below_drewN | apply below_drew1) | exact HB.out)) hb); clear HO_2; clear HK; clear HB; have HO_2 := n0_; have HK := n1_; have HB := n2_; clear n0_ n1_ n2_; (try clear hb); (try clear hb2); (try clear hk); (try clear hi)) | ((with_reducible refine gate_builtin (b := .append) (xs := #[.tmp 34, .tmp 40]) rfl ?_); at_builtin; refine Kd.R_append k106 (w0 := w0) w0.heap.size rfl (.tmp 34) (.tmp 40) 120 106 (.agg #[(.int .u64 0), (.int .u64 0)]) 16 rfl Tryd.underlying120 info106 rfl (by decide) (by omega) u2 x2_1 (⟨t157, t158⟩ : S106) [.int .u64 t157, .int .u64 t158] (fun k_ => (P2_ k_ ∨ w.heap.size ≤ k_)) (fun _ => False) rfl rfl ?aP (fun _ hk => hk.elim) ?aF ?aO ?aB ?aS ?aL ?_; (case aP => exact k106_mkM _ _ _ (⟨t157, t158⟩ : S106)); (case aB => exact (by repeat (first | (with_reducible first | exact HB.out | apply below_alloc | apply pw_below_drewN | apply below_drew1) | exact HB.out))); (case aF => exact (fun k_ hk => (.inr (Nat.le_trans (by first | exact HK.out.1 | exact (show Kept w _ (fun k_ => P2_ k_) from by repeat (first | (with_reducible first | exact HK.out | apply Kept.alloc | apply Kept.drewN | apply Kept.drew) | exact HK.out)).1) hk)))); (case aO => exact (by (with_reducible repeat (first | apply Kd.R_alloc | apply Kd.R_drewN | apply Kd.R_drew)); exact HO_2.out)); (case aS => exact (below_size (by repeat (first | (with_reducible first | exact HB.out | apply below_alloc | apply pw_below_drewN | apply below_drew1) | exact HB.out)))); (case aL => have := LMc24.out; omega); intro v160 w26 ho hb hg hat; rw [← Ny159.out] at ho; have n0_ := Aside0.mk (hb); have n1_ := Aside0.mk (Kept.of_grown (S := (fun k_ => P2_ k_)) hg (by repeat (first | (with_reducible first | exact HK.out | apply Kept.alloc | apply Kept.drewN | apply Kept.drew) | exact HK.out)) (fun k_ e_ => (HO_2.out.1 k_ e_))); have n2_ := Aside0.mk (ho); clear HB; clear HK; clear HO_2; have HB := n0_; have HK := n1_; have HO161 := n2_; clear n0_ n1_ n2_; clear ho hb hg hat))
            go_roundg k1
            case measure => have := HK1.out; omega
            case rel => exact ⟨(y159), (Go.bits .xor .u64 x7_1 (ji20)), (IntKind.u64.wrap (x9_1 + (ji20))), (by first | rfl | (simp; done) | (simp only [← hji20] <;> (first | rfl | simp)) | (simp [*]; done)), (by first | rfl | (simp; done) | (simp only [← hji20] <;> (first | rfl | simp)) | (simp [*]; done)), H', ⟨by have := HK1.out; omega⟩, ⟨by (with_reducible repeat (first | apply Kd.R_alloc | apply Kd.R_drewN | apply Kd.R_drew)); exact HO161.out⟩, ⟨by repeat (first | (with_reducible first | exact HK.out | apply Kept.alloc | apply Kept.drewN | apply Kept.drew) | exact HK.out)⟩, ⟨by repeat (first | (with_reducible first | exact HB.out | apply below_alloc | apply pw_below_drewN | apply below_drew1) | exact HB.out)⟩⟩
          · rw [if_neg c24] at H
            exact absurd H (by simp)
        · rw [if_neg c19] at H
          exact absurd H (by simp)

end Go.Proofs.YtkmdkmlgahfcpaaDoor.M

namespace Go.Proofs.YtkmdkmlgahfcpaaDoor.M
open Go.RowKit Go.Proofs.YtkmdkmlgahfcpaaDoorW.PrintWords Go.Proofs.YtkmdkmlgahfcpaaDoorW.PrintLast Go.Proofs.YtkmdkmlgahfcpaaDoorW.PrintMore
attribute [local go_sem] max2_int min2_int max_two min_two max_three min_three max_four min_four   -- for this text's walks alone
set_option linter.unusedVariables false
set_option linter.unusedSimpArgs false

/-! ### impl_TreeRoot: function 14 -/
set_option linter.unusedVariables false
set_option linter.unusedSimpArgs false

/-- A level: a row of texts of the call's own. -/
def Lvl (w : World) (B : Nat) (v : Value) (h : List (List Int)) : Prop := (Kd.slice 5 (Kd.int .u8)).R 27 w B (fun _ => True) v h
def ApartL (vs : List Value) : Prop := ∀ (i j : Nat) (u v : Value) (k : Nat), i ≠ j → vs[i]? = some u → vs[j]? = some v → u.ownBlock = some k → v.ownBlock ≠ some k
structure Tr (w : World) (B g : Nat) (ag : Value) (n : Nat) (H : List (List (List Int))) (S : Nat → Prop) (vo : Value) (vs : List Value) : Prop where
  blk : w.heap[g]? = some (.cells #[ag, .int .u64 n, vo] 136 (0, 0))
  base : B ≤ g
  out : w.ownsRow B 25 1 vo vs.length vs
  len : vs.length = H.length
  lvl : ∀ (j : Nat) (v : Value) (h : List (List Int)), vs[j]? = some v → H[j]? = some h → Lvl w B v h
  apart : ApartL vs
  sg : S g
  so : ∀ k, vo.ownBlock = some k → S k
  sv : ∀ (j : Nat) (v : Value) (k : Nat), vs[j]? = some v → v.ownBlock = some k → S k
section
variable {w w1 w2 w' : World} {B g n : Nat} {ag : Value} {H : List (List (List Int))} {S : Nat → Prop} {vo : Value} {vs : List Value}
theorem Lvl.own {v : Value} {x : List (List Int)} (h : Lvl w B v x) : ∃ cs, w.ownsRow B 27 1 v x.length cs := Kd.R_own h
/-- A level's rows are none of another kind's blocks. -/
theorem Lvl.ne {v : Value} {x : List (List Int)} {k q : Nat} {cs : Array Value} (h : Lvl w B v x) (hk : w.heap[k]? = some (.cells cs q (0, 0))) (hq : q ≠ 5) (hv : v.ownBlock ≠ some k) :
    (Kd.slice 5 (Kd.int .u8)).R 27 w B (fun b => b ≠ k) v x := by
  obtain ⟨h0, inner, ho, hr⟩ := h
  refine ⟨fun b hb e => hv (e ▸ hb), inner, ho, hr.imp_ (fun p c hp => Kd.M_mono _ (fun b hb => ?_) (Kd.M_bound _ hp))⟩
  obtain ⟨⟨h1, h2⟩, h3, h4, q', hq', cells, hc⟩ := hb
  refine ⟨?_, h2⟩
  rintro rfl
  rw [hk] at hc
  injection hc with hc
  injection hc with _ hc
  have e5 : q' = 5 := by simpa [Kd.slice, Kd.int, Kd.scalar] using hq'
  exact hq (hc.trans e5)
theorem Lvl.below {v : Value} {x : List (List Int)} (h : Lvl w B v x) (hb : Below w.heap.size w w1) : Lvl w1 B v x := Kd.R_below h hb
theorem Tr.below (h : Tr w B g ag n H S vo vs) (hb : Below w.heap.size w w') : Tr w' B g ag n H S vo vs :=
  ⟨blk_below h.blk hb, h.base, pw_own_below h.out hb, h.len, fun j v x h1 h2 => (h.lvl j v x h1 h2).below hb, h.apart, h.sg, h.so, h.sv⟩
theorem Tr.mono {S' : Nat → Prop} (h : Tr w B g ag n H S vo vs) (hs : ∀ k, S k → S' k) : Tr w B g ag n H S' vo vs :=
  ⟨h.blk, h.base, h.out, h.len, h.lvl, h.apart, hs _ h.sg, fun k hk => hs _ (h.so k hk), fun j v k h1 h2 => hs _ (h.sv j v k h1 h2)⟩
theorem Tr.cell (h : Tr w B g ag n H S vo vs) : w.cell? ⟨g, 0, none⟩ = some ag ∧ w.cell? ⟨g, 1, none⟩ = some (.int .u64 n) ∧ w.cell? ⟨g, 2, none⟩ = some vo :=
  ⟨(blk_cell h.blk 0).trans rfl, (blk_cell h.blk 1).trans rfl, (blk_cell h.blk 2).trans rfl⟩
theorem Tr.free (h : Tr w B g ag n H S vo vs) (i : Nat) : w.frozen? ⟨g, i, none⟩ = false := blk_frozen h.blk i
/-- The outer row's place. -/
theorem Tr.row (h : Tr w B g ag n H S vo vs) (hn : 0 < vs.length) : ∃ go co, vo = .slice (some ⟨go, 0, none⟩) vs.length co ∧ vs.length ≤ co ∧ B ≤ go ∧ S go ∧ go ≠ g := by
  rcases h.out.2 with ⟨_, h0⟩ | ⟨go, co, cur, e, hb, hg, hc, _⟩
  · omega
  · refine ⟨go, co, e, hc, hb, h.so go (by rw [e]; rfl), fun e2 => ?_⟩
    rw [e2, h.blk] at hg
    injection hg with hg
    injection hg with _ hg
    exact absurd hg (by decide)
theorem Tr.rowCell {go co : Nat} (h : Tr w B g ag n H S (.slice (some ⟨go, 0, none⟩) vs.length co) vs) (j : Nat) (hj : j < vs.length) : w.cell? ⟨go, j, none⟩ = vs[j]? := h.out.cellAt j (by omega)
theorem Tr.rowFree {go co : Nat} (h : Tr w B g ag n H S (.slice (some ⟨go, 0, none⟩) vs.length co) vs) (j : Nat) : w.frozen? ⟨go, j, none⟩ = false := h.out.frozenAt j
theorem Tr.at_ (h : Tr w B g ag n H S vo vs) {j : Nat} (hj : j < H.length) : ∃ v x, vs[j]? = some v ∧ H[j]? = some x ∧ Lvl w B v x := by
  have h1 : j < vs.length := by have := h.len; omega
  exact ⟨_, _, List.getElem?_eq_getElem h1, List.getElem?_eq_getElem hj, h.lvl j _ _ (List.getElem?_eq_getElem h1) (List.getElem?_eq_getElem hj)⟩
/-- A level's own row has been written, or appended to: the frame's two parts. -/
theorem Tr.mid (h : Tr w B g ag n H S vo vs) {j : Nat} {v : Value} (hj : vs[j]? = some v) (hjH : j < H.length) (hg : w.grownBy w1 v.ownBlock) :
    w1.heap[g]? = some (.cells #[ag, .int .u64 n, vo] 136 (0, 0)) ∧ w1.ownsRow B 25 1 vo vs.length vs ∧
      ∀ (i : Nat) (u : Value) (x : List (List Int)), i ≠ j → vs[i]? = some u → H[i]? = some x → Lvl w1 B u x := by
  have hl := h.lvl j v _ hj (List.getElem?_eq_getElem hjH)
  obtain ⟨cs, ho⟩ := hl.own
  refine ⟨blk_grown h.blk hg ?_, own_other h.out hg (own_type_ne h.out ho (by decide)), fun i u x hij hu hx => ?_⟩
  · intro e
    obtain ⟨c, hc⟩ := own_typed ho g e.symm
    rw [h.blk] at hc
    injection hc with hc
    injection hc with _ hc
    exact absurd hc (by decide)
  · have hlu := h.lvl i u x hu hx
    cases hv : v.ownBlock with
    | none => rw [hv] at hg; exact Kd.R_grown hlu hg (fun k _ => by simp)
    | some k =>
      obtain ⟨c, hc⟩ := own_typed ho k hv
      rw [hv] at hg
      exact Kd.R_mono (Kd.R_grown (hlu.ne hc (by decide) (h.apart j i v u k (Ne.symm hij) hj hu hv)) hg (fun b hb e => hb (Option.some.inj e))) (fun _ _ => trivial)
/-- A level's row has been made longer and stored back. -/
theorem Tr.put {go co : Nat} (h : Tr w B g ag n H S (.slice (some ⟨go, 0, none⟩) vs.length co) vs) {j : Nat} {v v1 : Value} {x1 : List (List Int)} (hj : vs[j]? = some v) (hg : w.grownBy w1 v.ownBlock) (hb : Below w1.heap.size w1 w2)
    (hv : Lvl w2 B v1 x1) (hat : v1.ownBlock = v.ownBlock ∨ ∃ b, v1.ownBlock = some b ∧ w.heap.size ≤ b) :
    Tr (w2.setCell ⟨go, j, none⟩ v1) B g ag n (H.set j x1) (fun k => S k ∨ w.heap.size ≤ k) (.slice (some ⟨go, 0, none⟩) vs.length co) (vs.set j v1) := by
  have hjl : j < vs.length := (List.getElem?_eq_some_iff.1 hj).1
  have hjH : j < H.length := by have := h.len; omega
  obtain ⟨m1, m2, m3⟩ := h.mid hj hjH hg
  have k1 := blk_below m1 hb
  have k2 := pw_own_below m2 hb
  have hne : go ≠ g := by
    rintro rfl
    obtain ⟨c, hc⟩ := own_typed k2 go rfl
    rw [k1] at hc
    injection hc with hc
    injection hc with _ hc
    exact absurd hc (by decide)
  obtain ⟨s1, s2⟩ := k2.stored j v1
  obtain ⟨cgo, hgo⟩ := own_typed k2 go rfl
  have hlen : (vs.set j v1).length = vs.length := List.length_set
  have lvk : ∀ (u : Value) (x : List (List Int)), Lvl w2 B u x → Lvl (w2.setCell ⟨go, j, none⟩ v1) B u x := fun u x hu =>
    Kd.R_set hu hgo (by intro q hq; simp [Kd.slice, Kd.int, Kd.scalar] at hq; omega) j v1
  have hold : ∀ (i : Nat) (u : Value) (k : Nat), vs[i]? = some u → u.ownBlock = some k → k < w.heap.size := by
    intro i u k hu hk
    have hi : i < H.length := by have := (List.getElem?_eq_some_iff.1 hu).1; have := h.len; omega
    obtain ⟨cs, ho⟩ := (h.lvl i u _ hu (List.getElem?_eq_getElem hi)).own
    exact own_lt ho k hk
  refine ⟨blk_far k1 (Ne.symm hne) v1, h.base, by rw [hlen]; exact s1, by rw [hlen, List.length_set]; exact h.len, ?_, ?_, .inl h.sg, fun k hk => .inl (h.so k hk), ?_⟩
  · intro i u x hu hx
    by_cases hij : i = j
    · subst hij
      rw [List.getElem?_set_self hjl] at hu
      rw [List.getElem?_set_self hjH] at hx
      cases hu
      cases hx
      exact lvk _ _ hv
    · rw [List.getElem?_set_ne (Ne.symm hij)] at hu hx
      exact lvk _ _ ((m3 i u x hij hu hx).below hb)
  · intro i i' u u' k hii hu hu' hk hk'
    by_cases h1 : i = j
    · subst h1
      rw [List.getElem?_set_self hjl] at hu
      rw [List.getElem?_set_ne hii] at hu'
      cases hu
      rcases hat with e | ⟨b, e, hbb⟩
      · exact h.apart i i' v u' k hii hj hu' (e ▸ hk) hk'
      · have := hold i' u' k hu' hk'
        rw [hk] at e
        cases e
        omega
    · rw [List.getElem?_set_ne (Ne.symm h1)] at hu
      by_cases h2 : i' = j
      · subst h2
        rw [List.getElem?_set_self hjl] at hu'
        cases hu'
        rcases hat with e | ⟨b, e, hbb⟩
        · exact h.apart i i' u v k hii hu hj hk (e ▸ hk')
        · have := hold i u k hu hk
          rw [hk'] at e
          cases e
          omega
      · rw [List.getElem?_set_ne (Ne.symm h2)] at hu'
        exact h.apart i i' u u' k hii hu hu' hk hk'
  · intro i u k hu hk
    by_cases hij : i = j
    · subst hij
      rw [List.getElem?_set_self hjl] at hu
      cases hu
      rcases hat with e | ⟨b, e, hbb⟩
      · exact .inl (h.sv i v k hj (e ▸ hk))
      · rw [hk] at e
        cases e
        exact .inr hbb
    · rw [List.getElem?_set_ne (Ne.symm hij)] at hu
      exact .inl (h.sv i u k hu hk)
/-- The count is set. -/
theorem Tr.count (h : Tr w B g ag n H S vo vs) (m : Nat) : Tr (w.setCell ⟨g, 1, none⟩ (.int .u64 m)) B g ag m H S vo vs := by
  refine ⟨blk_put h.blk 1 _ rfl, h.base, own_setCell h.out ?_ _, h.len, fun j v x h1 h2 => Kd.R_set (h.lvl j v x h1 h2) h.blk (by intro q hq; simp [Kd.slice, Kd.int, Kd.scalar] at hq; omega) 1 _, h.apart, h.sg, h.so, h.sv⟩
  intro e
  obtain ⟨c, hc⟩ := own_typed h.out g e.symm
  rw [h.blk] at hc
  injection hc with hc
  injection hc with _ hc
  exact absurd hc (by decide)
/-- The outer row has been made longer by an empty level, and stored back. -/
theorem Tr.more (h : Tr w B g ag n H S vo vs) {vo1 : Value} (hg : w.grownBy w1 vo.ownBlock) (ho : w1.ownsRow B 25 1 vo1 (vs ++ [Value.slice none 0 0]).length (vs ++ [Value.slice none 0 0]))
    (hat : vo1.ownBlock = vo.ownBlock ∨ ∃ b, vo1.ownBlock = some b ∧ w.heap.size ≤ b) :
    Tr (w1.setCell ⟨g, 2, none⟩ vo1) B g ag n (H ++ [[]]) (fun k => S k ∨ w.heap.size ≤ k) vo1 (vs ++ [Value.slice none 0 0]) := by
  have hgne : some g ≠ vo.ownBlock := by
    intro e
    obtain ⟨c, hc⟩ := own_typed h.out g e.symm
    rw [h.blk] at hc
    injection hc with hc
    injection hc with _ hc
    exact absurd hc (by decide)
  have k1 := blk_grown h.blk hg hgne
  have lv : ∀ (j : Nat) (v : Value) (x : List (List Int)), vs[j]? = some v → H[j]? = some x → Lvl w1 B v x := fun j v x h1 h2 => by
    have hl := h.lvl j v x h1 h2
    cases hv : vo.ownBlock with
    | none => rw [hv] at hg; exact Kd.R_grown hl hg (fun k _ => by simp)
    | some k =>
      obtain ⟨c, hc⟩ := own_typed h.out k hv
      rw [hv] at hg
      exact Kd.R_mono (Kd.R_grown (Kd.R_types hl hc (by intro q hq; simp [Kd.slice, Kd.int, Kd.scalar] at hq; omega)) hg (fun b hb e => hb.2 (Option.some.inj e))) (fun _ _ => trivial)
  refine ⟨blk_put k1 2 _ rfl, h.base, own_setCell ho ?_ _, by simp [h.len], ?_, ?_, .inl h.sg, ?_, ?_⟩
  · intro e
    obtain ⟨c, hc⟩ := own_typed ho g e.symm
    rw [k1] at hc
    injection hc with hc
    injection hc with _ hc
    exact absurd hc (by decide)
  · intro j v x h1 h2
    by_cases hj : j < vs.length
    · rw [List.getElem?_append_left hj] at h1
      rw [List.getElem?_append_left (by have := h.len; omega)] at h2
      exact Kd.R_set (lv j v x h1 h2) k1 (by intro q hq; simp [Kd.slice, Kd.int, Kd.scalar] at hq; omega) 2 _
    · have hjl : j < (vs ++ [Value.slice none 0 0]).length := (List.getElem?_eq_some_iff.1 h1).1
      rw [List.length_append] at hjl
      simp at hjl
      have e : j = vs.length := by omega
      subst e
      simp at h1
      rw [h.len] at h2
      simp at h2
      subst h1 h2
      exact Kd.R_nil _ _ _ _ _
  · intro i j u v k hij hu hv hk hk'
    by_cases hi : i < vs.length
    · rw [List.getElem?_append_left hi] at hu
      by_cases hj : j < vs.length
      · rw [List.getElem?_append_left hj] at hv
        exact h.apart i j u v k hij hu hv hk hk'
      · have hjl : j < (vs ++ [Value.slice none 0 0]).length := (List.getElem?_eq_some_iff.1 hv).1
        simp at hjl
        have e : j = vs.length := by omega
        subst e
        simp at hv
        subst hv
        simp [Value.ownBlock] at hk'
    · have hil : i < (vs ++ [Value.slice none 0 0]).length := (List.getElem?_eq_some_iff.1 hu).1
      simp at hil
      have e : i = vs.length := by omega
      subst e
      simp at hu
      subst hu
      simp [Value.ownBlock] at hk
  · intro k hk
    rcases hat with e | ⟨b, e, hbb⟩
    · exact .inl (h.so k (e ▸ hk))
    · rw [hk] at e
      cases e
      exact .inr hbb
  · intro j v k hv hk
    by_cases hj : j < vs.length
    · rw [List.getElem?_append_left hj] at hv
      exact .inl (h.sv j v k hv hk)
    · have hjl : j < (vs ++ [Value.slice none 0 0]).length := (List.getElem?_eq_some_iff.1 hv).1
      simp at hjl
      have e : j = vs.length := by omega
      subst e
      simp at hv
      subst hv
      simp [Value.ownBlock] at hk
end
set_option linter.unusedVariables false
set_option linter.unusedSimpArgs false
attribute [local go_sem ↓] Go.wp_at_zero Go.wp_at_succ

/-- A node is put at level j; where it completes a pair, its parent goes one level up. -/
def up (hc : List Int → List Int → Option (List Int)) (n : Nat) : Nat → List (List (List Int)) → Nat → List Int → Option (List (List (List Int)))
  | 0, _, _, _ => none
  | k + 1, H, j, x => if n / 2 ^ j % 2 = 1 then (if j < H.length ∧ j < 63 ∧ 0 < (H.getD j []).length ∧ (H.getD j []).length < 1099511627776 then (hc ((H.getD j []).getD ((H.getD j []).length - 1) []) x).bind fun y => up hc n k (H.set j (H.getD j [] ++ [x])) (j + 1) y else none)
      else (if j < H.length then (if j < 63 ∧ (H.getD j []).length < 1099511627776 then some (H.set j (H.getD j [] ++ [x])) else none) else if j = H.length ∧ j < 63 then some (H ++ [[x]]) else none)

theorem bit_at (n j : Nat) (hn : n < 4611686018427387904) : bits .and .u64 ((n : Int) / 2 ^ j) 1 = ((n / 2 ^ j % 2 : Nat) : Int) := by
  have e2 : (n : Int) / 2 ^ j = ((n / 2 ^ j : Nat) : Int) := by norm_cast
  have hb : n / 2 ^ j < 18446744073709551616 := Nat.lt_of_le_of_lt (Nat.div_le_self _ _) (by omega)
  rw [e2, show (1 : Int) = ((1 : Nat) : Int) from rfl, bits_and_u64_nat _ 1 hb (by omega), show n / 2 ^ j &&& 1 = n / 2 ^ j % 2 from Nat.and_two_pow_sub_one_eq_mod _ 1]
def agOf (a0 a1 a2 a3 a4 a5 : Int) : Value := .iface 85 (.agg #[.int .i64 a0, .int .i64 a1, .int .i64 a2, .int .u64 a3, .int .u64 a4, .int .u64 a5])
theorem info_rows : (Tryd.prog.info? 25).map (fun i => (i.zero, i.size, i.bytes)) = some (some (.slice none 0 0), 1, 24) := by kernel_rfl
theorem one_nil : ∀ u ∈ [Value.slice none 0 0], u.oneCell' = true := by intro u hu; rw [List.mem_singleton.1 hu]; rfl
theorem own_some {w : World} {B e n : Nat} {v : Value} {xs : List Value} (h : w.ownsRow B e 1 v n xs) (hn : 0 < n) : ∃ g c, v = .slice (some ⟨g, 0, none⟩) n c ∧ B ≤ g := by
  rcases h.2 with ⟨_, h0⟩ | ⟨go, co, cur, e, hb, _⟩
  · omega
  · exact ⟨go, co, e, hb⟩
theorem Tr.moreBlk {w w1 : World} {B g n : Nat} {ag : Value} {H : List (List (List Int))} {S : Nat → Prop} {vo : Value} {vs : List Value} (h : Tr w B g ag n H S vo vs) (hg : w.grownBy w1 vo.ownBlock) :
    w1.cell? ⟨g, 2, none⟩ = some vo ∧ w1.frozen? ⟨g, 2, none⟩ = false ∧ w1.heap[g]? = some (.cells #[ag, .int .u64 n, vo] 136 (0, 0)) := by
  have hgne : some g ≠ vo.ownBlock := by
    intro e
    obtain ⟨c, hc⟩ := own_typed h.out g e.symm
    rw [h.blk] at hc
    injection hc with hc
    injection hc with _ hc
    exact absurd hc (by decide)
  have k1 := blk_grown h.blk hg hgne
  exact ⟨(blk_cell k1 2).trans rfl, blk_frozen k1 2, k1⟩
set_option maxHeartbeats 4000000 in
set_option maxRecDepth 100000 in
theorem appendImpl_calls (k kf : Nat) (a0 a1 a2 a3 a4 a5 : Int) (B g n : Nat) (H r : List (List (List Int))) (S : Nat → Prop) (vo : Value) (vs : List Value) (v : Value) (x : List Int) (w : World)
    (hT : Tr w B g (agOf a0 a1 a2 a3 a4 a5) n H S vo vs) (hx : (Kd.int .u8).R 5 w B (fun _ => True) v x) (hB : B ≤ w.heap.size) (hn : n < 4611686018427387904)
    (h : up (fun l r => impl_toy_HashChildren.f k a0 a1 a2 a3 a4 a5 l r) n kf H 0 x = some r) :
    Calls Tryd.prog 77 #[.pointer (some ⟨g, 0, none⟩), v] w fun e w' => e = .returned (.tuple #[]) ∧ ∃ vo' vs', Tr w' B g (agOf a0 a1 a2 a3 a4 a5) (n + 1) r (fun k => S k ∨ w.heap.size ≤ k) vo' vs' ∧ Kept w w' S ∧ Below B w w' := by
  obtain ⟨A1, c1, rfl⟩ := Kd.R_slice hx
  have HT := Aside0.mk hT
  have HX := Aside0.mk hx
  have H' := Aside0.mk h
  clear hT hx h
  go_enter Tryd.func77, Tryd.ntmps77
  go_wp2
  go_loopg [1, 4, 5] kf (fun kq v1 v4 v5 w' => ∃ (vo' : Value) (vs' : List Value) (H1 : List (List (List Int))) (j : Nat) (x1 : List Int) (A1 : Option Addr) (c1 : Nat), v1 = .slice A1 x1.length c1 ∧ v4 = .int .i64 (j : Int) ∧ j ≤ 63 ∧ Aside0 (up (fun l r => impl_toy_HashChildren.f k a0 a1 a2 a3 a4 a5 l r) n kq H1 j x1 = some r) ∧ Aside0 (kq ≤ kf) ∧ Aside0 (Tr w' B g (agOf a0 a1 a2 a3 a4 a5) n H1 (fun k => S k ∨ w.heap.size ≤ k) vo' vs') ∧ Aside0 ((Kd.int .u8).R 5 w' B (fun _ => True) v1 x1) ∧ Aside0 (Kept w w' S) ∧ Aside0 (Below B w w'))
  case atStart => exact ⟨vo, vs, H, 0, x, A1, c1, rfl, rfl, by omega, H', ⟨Nat.le_refl _⟩, ⟨HT.out.mono (fun _ h => .inl h)⟩, HX, ⟨Kept.refl _ _⟩, ⟨Below.refl _ _⟩⟩
  case round =>
    clear H'
    obtain ⟨vo', vs', H1, j, x1, A1, c1, rfl, rfl, hj63, HA, HK1, HT1, HX1, HKe, HBe⟩ := hrel
    cases gk with
    | zero => exact absurd HA.out (by simp [up])
    | succ k1 =>
      have H := HA.out
      clear HA
      simp only [up] at H
      obtain ⟨e0, e1, e2⟩ := HT1.out.cell
      have f1 := HT1.out.free 1
      have hbit := bit_at n j hn
      have HLEN := Aside0.mk HT1.out.len
      by_cases c1 : n / 2 ^ j % 2 = 1
      · rw [if_pos c1] at H
        rw [c1] at hbit
        by_cases c2 : j < H1.length ∧ j < 63 ∧ 0 < (H1.getD j []).length ∧ (H1.getD j []).length < 1099511627776
        · rw [if_pos c2] at H
          obtain ⟨c2, c3, c4, c5⟩ := c2
          obtain ⟨y, hy, H⟩ := Option.bind_eq_some_iff.mp H
          obtain ⟨go, co, rfl, hco, hBgo, hSgo, hgg⟩ := HT1.out.row (by have := HLEN.out; omega)
          obtain ⟨v, xl, hv, hxl, hL⟩ := HT1.out.at_ c2
          have exl : H1.getD j [] = xl := by rw [List.getD_eq_getElem?_getD, hxl]; rfl
          rw [exl] at hy H c4 c5
          obtain ⟨Av, cv, rfl⟩ := Kd.R_slice hL
          have ec := (HT1.out.rowCell j (by have := HLEN.out; omega)).trans hv
          have ef := HT1.out.rowFree j
          have hj0 : (0 : Int) ≤ (j : Int) := by omega
          have hj1 : (j : Int) < (vs'.length : Int) := by have := HLEN.out; omega
          have H' := Aside0.mk H
          have HY := Aside0.mk hy
          clear H hy
          have HL := Aside0.mk hL
          clear hL
          have NX := Aside0.mk exl
          clear exl
          have NH := Aside0.mk hxl
          have NV := Aside0.mk hv
          clear hxl hv
          have hBw : B ≤ wr.heap.size := Nat.le_trans hB HBe.out.size
          go_wp2_with ((with_reducible refine gate_builtin (b := .append) (xs := #[.tmp 22, .tmp 24]) rfl ?_); at_builtin; refine Kd.R_append (Kd.slice 5 (Kd.int .u8)) (w0 := w) B rfl (.tmp 22) (.tmp 24) 25 27 (.slice none 0 0) 24 rfl Tryd.underlying25 info27 rfl (by decide) (by omega) (Value.slice Av xl.length cv) xl x1 [.slice A1 x1.length _] (fun _ => True) (fun k_ => some k_ ≠ (Value.slice Av xl.length cv).ownBlock) rfl rfl ⟨_, rfl, Kd.R_mono (Kd.R_apart' HX1.out (Kd.R_typed HL.out) (by decide)) (fun _ h_ => h_.2)⟩ (fun _ h_ => ⟨trivial, h_⟩) (fun _ _ => trivial) HL.out HBe.out hBw (by omega) ?_; intro v1 w1 hL1 hb1 hg1 hat1)
          clear ec ef
          obtain ⟨A9, c9, rfl⟩ := Kd.R_slice hL1
          have e9 : (xl ++ [x1]).length = xl.length + 1 := by simp
          rw [e9] at hL1 hat1
          cases A9 with
          | none => 
            obtain ⟨_, inner, ho, _⟩ := hL1
            rcases ho.2 with ⟨_, h0⟩ | ⟨g', cap', cur, hv', _⟩
            · rw [e9] at h0; omega
            · cases hv'
          | some ad9 =>
          obtain ⟨g9, rfl⟩ := Kd.R_head hL1
          obtain ⟨cc, hcl, hM, hcell⟩ := Kd.R_getA hL1 ([] : List Int) ((xl.length : Int) - 1) (by omega) (by omega)
          obtain ⟨ve, rfl, hE⟩ := hM
          have ege : (xl ++ [x1]).getD ((xl.length : Int) - 1).toNat [] = xl.getD (xl.length - 1) [] := by
            rw [show ((xl.length : Int) - 1).toNat = xl.length - 1 by omega, List.getD_eq_getElem?_getD, List.getElem?_append_left (by omega), ← List.getD_eq_getElem?_getD]
          rw [ege] at hE
          generalize xl.getD (xl.length - 1) [] = xe at hE HY
          obtain ⟨Ae, ce, rfl⟩ := Kd.R_slice hE
          have ece := hcell 0 _ rfl
          obtain ⟨m1, m2, m3⟩ := HT1.out.mid NV.out c2 hg1
          have em : w1.cell? ⟨g, 0, none⟩ = some (agOf a0 a1 a2 a3 a4 a5) := (blk_cell m1 0).trans rfl
          have ece2 : w1.cell? ⟨g9, ((xl.length : Int) - 1).toNat, none⟩ = some (Value.slice Ae xe.length ce) := by
            have e := ece
            rw [show (Kd.slice 5 (Kd.int .u8)).sz = 1 from rfl, Nat.mul_one, Nat.add_zero, add_at, Nat.zero_add] at e
            exact e
          clear ece
          rw [e9]
          have HE := Aside0.mk hE
          have HL1 := Aside0.mk hL1
          clear hE hL1
          obtain ⟨m, hm⟩ : ∃ m, xl.length = m + 1 := ⟨xl.length - 1, by omega⟩
          rw [show ((xl.length : Int) - 1).toNat = m by omega] at ece2
          have hw1 : IntKind.i64.wrap ((xl.length : Int) + 1 - 2) = (m : Int) := by rw [i64_w]; unfold wrap64; omega
          have hm0 : (0 : Int) ≤ (m : Int) := by omega
          have hm1 : (m : Int) < (xl.length : Int) + 1 := by omega
          have HM := Aside0.mk hm
          clear hm
          unfold agOf at em
          have HXw := Aside0.mk (Kd.R_grown (Kd.R_apart' HX1.out (Kd.R_typed HL.out) (by decide)) hg1 (fun k hk => hk.2))
          go_still_tail 13, (by kernel_rfl)
          go_wp2_with ((with_reducible refine gate_invoke (m := "HashChildren") rfl ?_); refine invokesL_ (some 39) rfl rfl Tryd.func52 (by kernel_rfl) rfl 85 (.agg #[.int .i64 a0, .int .i64 a1, .int .i64 a2, .int .u64 a3, .int .u64 a4, .int .u64 a5]) #[.slice Ae xe.length ce, .slice A1 x1.length _] #[.agg #[.int .i64 a0, .int .i64 a1, .int .i64 a2, .int .u64 a3, .int .u64 a4, .int .u64 a5], .slice Ae xe.length ce, .slice A1 x1.length _] rfl rfl (by first | rfl | (simp only [Act.eval]; rfl)) (by (try simp only [List.map_toArray, List.map_cons, List.map_nil]); first | done | rfl) (fun _ => by kernel_rfl) ?_; (with_reducible refine (impl_toy_HashChildren.calls k a0 a1 a2 a3 a4 a5 _ _ xe _ _ x1 y _ ?side1 ?side2 ?side3 ?side4 HY.out).mono ?_); (case side1 => exact Kd.C_drew (Kd.R_reads' HE.out).2.2); (case side2 => exact (Kd.R_reads' HE.out).2.1); (case side3 => exact Kd.C_drew (Kd.R_reads' HXw.out).2.2); (case side4 => exact (Kd.R_reads' HXw.out).2.1); rintro e w2 ⟨v2, rfl, ho2, hb2⟩; refine ⟨_, rfl, ?_⟩; have hb3 := below_step (below_drew (Below.refl w1.heap.size w1)) hb2; have mk1 := blk_below m1 hb3; have mk2 := pw_own_below m2 hb3; have HL2 := Aside0.mk (Lvl.below HL1.out hb3); have HY2 := Aside0.mk ho2; have HB3 := Aside0.mk hb3; clear ho2 hb2 hb3 HL1 HE; have ev := (blk_cell mk1 2).trans rfl; have ev1 := mk2.frozenAt j; have ev2 := (mk2.cellAt j (by have := HLEN.out; omega)).trans NV.out)
          have hlt1 := Nat.le_trans hBw (Nat.le_trans hg1.size (Nat.le_refl _))
          go_roundg k1
          case measure => have := HK1.out; omega
          case rel =>
            obtain ⟨A2, c2', rfl⟩ := Kd.R_slice HY2.out
            exact ⟨_, _, _, j + 1, y, A2, c2', rfl, by simp, by omega, H',
              ⟨by have := HK1.out; omega⟩,
              ⟨(HT1.out.put NV.out hg1 HB3.out HL2.out hat1).mono (fun k hk => hk.elim id (fun hk => .inr (Nat.le_trans HKe.out.1 hk)))⟩,
              ⟨Kd.R_set (Kd.R_lower HY2.out hlt1) (own_typed mk2 go rfl).choose_spec (by decide) j _⟩,
              ⟨((Kept.of_grown hg1 HKe.out (fun k hk => HT1.out.sv j _ k NV.out hk)).below HB3.out).setCell hSgo _⟩,
              ⟨(below_then hb1 hlt1 HB3.out).setCell hBgo _⟩⟩
        · rw [if_neg c2] at H
          exact absurd H (by simp)
      · rw [if_neg c1] at H
        have c1' : n / 2 ^ j % 2 = 0 := by omega
        rw [c1'] at hbit
        clear c1
        by_cases c2 : j < H1.length
        · rw [if_pos c2] at H
          by_cases c3 : j < 63 ∧ (H1.getD j []).length < 1099511627776
          · rw [if_pos c3] at H
            obtain ⟨c3, c5⟩ := c3
            have hr := Option.some.inj H
            obtain ⟨go, co, rfl, hco, hBgo, hSgo, hgg⟩ := HT1.out.row (by have := HLEN.out; omega)
            obtain ⟨v, xl, hv, hxl, hL⟩ := HT1.out.at_ c2
            have exl : H1.getD j [] = xl := by rw [List.getD_eq_getElem?_getD, hxl]; rfl
            rw [exl] at c5 hr
            have HR := Aside0.mk hr
            clear hr H
            obtain ⟨Av, cv, rfl⟩ := Kd.R_slice hL
            have ec := (HT1.out.rowCell j (by have := HLEN.out; omega)).trans hv
            have ef := HT1.out.rowFree j
            have hj0 : (0 : Int) ≤ (j : Int) := by omega
            have hj1 : (j : Int) < (vs'.length : Int) := by have := HLEN.out; omega
            have hj2 : ¬ ((vs'.length : Int) < (j : Int)) := by omega
            have hj3 : ((j : Int) == (vs'.length : Int)) = false := by rw [beq_eq_false_iff_ne]; omega
            have HL := Aside0.mk hL
            have NX := Aside0.mk exl
            have NV := Aside0.mk hv
            clear hL exl hxl hv
            have hBw : B ≤ wr.heap.size := Nat.le_trans hB HBe.out.size
            have HTd := Aside0.mk (HT1.out.below (below_drew (Below.refl wr.heap.size wr)))
            go_wp2
            have ne1 : go < wr.heap.size := World.block_lt_of_cell? wr ⟨go, j, none⟩ ec
            have ne2 : g < wr.heap.size := World.block_lt_of_cell? wr ⟨g, 2, none⟩ e2
            have hgg2 : ¬ g = go := fun e => hgg e.symm
            go_region_law
              ((refine Kd.R_append_step (Kd.slice 5 (Kd.int .u8)) (w0 := w) B (by rfl) (.tmp 82) (.tmp 84) 25 27 (.slice none 0 0) 24 (by rfl) Tryd.underlying25 info27 rfl (by decide) (by omega) (Value.slice Av xl.length cv) xl x1 [.slice A1 x1.length _] (fun _ => True) (fun k_ => some k_ ≠ (Value.slice Av xl.length cv).ownBlock) (by rfl) (by rfl) ⟨_, rfl, Kd.R_mono (Kd.R_apart' (Kd.R_drew HX1.out) (Kd.R_typed (Kd.R_drew HL.out)) (by decide)) (fun _ h_ => h_.2)⟩ (fun _ h_ => ⟨trivial, h_⟩) (fun _ _ => trivial) (Kd.R_drew HL.out) (below_drew HBe.out) hBw (by omega) ?_; intro v1 w1 hL1 hb1 hg1 hat1; obtain ⟨A9, c9, rfl⟩ := Kd.R_slice hL1; obtain ⟨m1, m2, m3⟩ := HTd.out.mid NV.out c2 hg1; have ev0 := m2.frozenAt j; have ev1 := (m2.cellAt j (by have := HLEN.out; omega)).trans NV.out; have ev2 := (blk_cell m1 2).trans rfl))
            all_goals
              have e9 : (xl ++ [x1]).length = xl.length + 1 := by simp
              rw [e9] at hL1 hat1
              have hT2 := HTd.out.put NV.out hg1 (Below.refl w1.heap.size w1) hL1 hat1
              obtain ⟨q0, q1, q2⟩ := hT2.cell
              have q3 := hT2.free 1
              have hnw : IntKind.u64.wrap ((n : Int) + 1) = (n : Int) + 1 := by simp [IntKind.wrap_u64]; omega
              have HT2 := Aside0.mk hT2
              have HL1 := Aside0.mk hL1
              clear hT2 hL1
              go_wp2
              go_end0
              have hT3 := (HT2.out.count (n + 1)).mono (S' := fun k => S k ∨ w.heap.size ≤ k) (fun k hk => hk.elim id (fun hk => .inr (Nat.le_trans HKe.out.1 hk)))
              rw [HR.out] at hT3
              exact ⟨rfl, _, _, hT3, ((Kept.of_grown hg1 (HKe.out.drew) (fun k hk => HT1.out.sv j _ k NV.out hk)).setCell hSgo _).setCell HT1.out.sg _, (hb1.setCell hBgo _).setCell HT1.out.base _⟩
          · rw [if_neg c3] at H
            exact absurd H (by simp)
        · rw [if_neg c2] at H
          by_cases c3 : j = H1.length ∧ j < 63
          · rw [if_pos c3] at H
            obtain ⟨c3, c4⟩ := c3
            have HR := Aside0.mk (Option.some.inj H)
            clear H
            obtain ⟨Ao, co0, eo0⟩ : ∃ A c, vo' = .slice A vs'.length c := by
              rcases HT1.out.out.2 with ⟨e, h0⟩ | ⟨go, co, cur, e, _⟩
              · exact ⟨none, 0, by rw [h0]; exact e⟩
              · exact ⟨_, co, e⟩
            subst eo0
            have hj2 : ¬ ((vs'.length : Int) < (j : Int)) := by have := HLEN.out; omega
            have hj3 : ((j : Int) == (vs'.length : Int)) = true := by rw [beq_iff_eq]; have := HLEN.out; omega
            have hjv : vs'.length < 63 := by have := HLEN.out; omega
            have hBw : B ≤ wr.heap.size := Nat.le_trans hB HBe.out.size
            have C3 := Aside0.mk c3
            clear c3
            go_wp2_with ((with_reducible refine gate_builtin (b := .append) (xs := #[.tmp 66, .tmp 67]) rfl ?_); at_builtin; refine print_append_cells (w0 := w) B rfl (.tmp 66) (.tmp 67) 134 25 (.slice none 0 0) 1 24 rfl Tryd.underlying134 info_rows rfl (by decide) (by omega) (.slice Ao vs'.length co0) vs'.length vs' [.slice none 0 0] rfl rfl rfl one_nil HT1.out.out HBe.out hBw (by omega) ?_; intro vo1 w1 hO1 hb1 hg1 hat1; obtain ⟨gq, cq, rfl, hBgq⟩ := own_some hO1 (by omega); obtain ⟨er1, er2, er3⟩ := HT1.out.moreBlk hg1)
            have HTm := HT1.out.more hg1 (by rw [List.length_append]; exact hO1) hat1
            have hBw1 : B ≤ w1.heap.size := Nat.le_trans hBw hg1.size
            have HKm := ((Kept.of_grown hg1 HKe.out (fun k hk => HT1.out.so k hk)).setCell (p := ⟨g, 2, none⟩) HT1.out.sg (.slice (some ⟨gq, 0, none⟩) (vs'.length + 1) cq))
            have HBm := hb1.setCell (p := ⟨g, 2, none⟩) HT1.out.base (.slice (some ⟨gq, 0, none⟩) (vs'.length + 1) cq)
            have HXm := Kd.R_set (Kd.R_grown (Kd.R_apart' HX1.out (own_typed HT1.out.out) (by decide)) hg1 (fun k hk => hk.2)) er3 (by decide) 2 (.slice (some ⟨gq, 0, none⟩) (vs'.length + 1) cq)
            have hSz : wr.heap.size ≤ (w1.setCell ⟨g, 2, none⟩ (.slice (some ⟨gq, 0, none⟩) (vs'.length + 1) cq)).heap.size := by simpa using hg1.size
            obtain ⟨vs2, hvs2⟩ : ∃ l, l = vs' ++ [Value.slice none 0 0] := ⟨_, rfl⟩
            obtain ⟨H2, hH2⟩ : ∃ l, l = H1 ++ [([] : List (List Int))] := ⟨_, rfl⟩
            rw [← hvs2, ← hH2] at HTm
            have hl2 : vs2.length = vs'.length + 1 := by rw [hvs2]; simp
            rw [← hl2] at HTm HKm HBm HXm hSz ⊢
            generalize hwq : w1.setCell ⟨g, 2, none⟩ (.slice (some ⟨gq, 0, none⟩) vs2.length cq) = wq at HTm HKm HBm HXm hSz ⊢
            have c3 := C3.out
            have NVq : Aside0 (vs2[j]? = some (Value.slice none 0 0)) := ⟨by rw [hvs2, c3, ← HLEN.out]; simp⟩
            have HRq : Aside0 (H2.set j (([] : List (List Int)) ++ [x1]) = r) := ⟨by rw [hH2, c3, ← HR.out]; simp⟩
            have c2q : j < H2.length := by rw [hH2, c3]; simp
            have hjq0 : (0 : Int) ≤ (j : Int) := by omega
            have hjq1 : (j : Int) < (vs2.length : Int) := by have := HLEN.out; omega
            have hgq : gq ≠ g := by
              obtain ⟨gq', co', e', _, _, _, hgg'⟩ := HTm.row (by omega)
              injection e' with e' _ _
              injection e' with e'
              injection e' with e'
              rw [e']
              exact hgg'
            have hSq : S gq ∨ w.heap.size ≤ gq := (HTm.so gq rfl).elim id (fun hk => .inr (Nat.le_trans HKe.out.1 hk))
            have ecq := (HTm.rowCell j (by omega)).trans NVq.out
            have efq := HTm.rowFree j
            have e2q := HTm.cell.2.2
            have hBq : B ≤ wq.heap.size := Nat.le_trans hBw hSz
            have HLv : Aside0 (Lvl wq B (Value.slice none 0 0) []) := ⟨Kd.R_nil _ _ _ _ _⟩
            have HLq := Aside0.mk HTm.len
            have HTq := Aside0.mk (HTm.mono (S' := fun k => S k ∨ w.heap.size ≤ k) (fun k hk => hk.elim id (fun hk => .inr (Nat.le_trans HKe.out.1 hk))))
            have HKq := Aside0.mk HKm
            have HBq := Aside0.mk HBm
            have HXq := Aside0.mk (Kd.R_mono HXm (fun k _ => trivial : ∀ k, _ → (fun _ => True) k))
            clear HTm HKm HBm HXm hvs2 hH2 hwq hO1 hb1 hg1 hat1 er1 er2 er3 c3 hl2 hSz hBw1
            have HTe := Aside0.mk (HTq.out.below (below_drew (Below.refl wq.heap.size wq)))
            have ne1 : gq < wq.heap.size := World.block_lt_of_cell? wq ⟨gq, j, none⟩ ecq
            have ne2 : g < wq.heap.size := World.block_lt_of_cell? wq ⟨g, 2, none⟩ e2q
            have hgg2 : ¬ g = gq := fun e => hgq e.symm
            go_region_law
              ((refine Kd.R_append_step (Kd.slice 5 (Kd.int .u8)) (w0 := w) B (by rfl) (.tmp 82) (.tmp 84) 25 27 (.slice none 0 0) 24 (by rfl) Tryd.underlying25 info27 rfl (by decide) (by omega) (Value.slice none 0 0) ([] : List (List Int)) x1 [.slice A1 x1.length _] (fun _ => True) (fun k_ => some k_ ≠ (Value.slice none 0 0).ownBlock) (by rfl) (by rfl) ⟨_, rfl, Kd.R_mono (Kd.R_apart' (Kd.R_drew HXq.out) (Kd.R_typed (Kd.R_drew HLv.out)) (by decide)) (fun _ h_ => h_.2)⟩ (fun _ h_ => ⟨trivial, h_⟩) (fun _ _ => trivial) (Kd.R_drew HLv.out) (below_drew HBq.out) hBq (by simp) ?_; intro v1 w3 hL2 hb2 hg2 hat2; obtain ⟨A9, c9, rfl⟩ := Kd.R_slice hL2; obtain ⟨m4, m5, m6⟩ := HTe.out.mid NVq.out c2q hg2; have ev0 := m5.frozenAt j; have ev1 := (m5.cellAt j (by have := HLq.out; omega)).trans NVq.out; have ev2 := (blk_cell m4 2).trans rfl))
            all_goals
              have e9 : (([] : List (List Int)) ++ [x1]).length = 1 := by simp
              rw [e9] at hL2 hat2
              have hT2 := HTe.out.put NVq.out hg2 (Below.refl w3.heap.size w3) hL2 hat2
              obtain ⟨q0, q1, q2⟩ := hT2.cell
              have q3 := hT2.free 1
              have hnw : IntKind.u64.wrap ((n : Int) + 1) = (n : Int) + 1 := by simp [IntKind.wrap_u64]; omega
              have HT2 := Aside0.mk hT2
              have HL1 := Aside0.mk hL2
              clear hT2 hL2
              go_wp2
              go_end0
              have hT3 := (HT2.out.count (n + 1)).mono (S' := fun k => S k ∨ w.heap.size ≤ k) (fun k hk => hk.elim id (fun hk => .inr (Nat.le_trans HKq.out.1 hk)))
              rw [HRq.out] at hT3
              exact ⟨rfl, _, _, hT3, ((Kept.of_grown hg2 (HKq.out.drew) (fun k hk => HTq.out.sv j _ k NVq.out hk)).setCell hSq _).setCell HTq.out.sg _, (hb2.setCell hBgq _).setCell HTq.out.base _⟩
          · rw [if_neg c3] at H
            exact absurd H (by simp)
set_option linter.unusedVariables false
set_option linter.unusedSimpArgs false

def inH (H : List (List (List Int))) (s : S106) : Prop := 0 ≤ s.f0 ∧ s.f0 < (H.length : Int) ∧ 0 ≤ s.f1 ∧ s.f1 < ((H.getD s.f0.toNat []).length : Int)
instance (H : List (List (List Int))) (s : S106) : Decidable (inH H s) := by unfold inH; infer_instance
def valH (H : List (List (List Int))) (s : S106) : List Int := (H.getD s.f0.toNat []).getD s.f1.toNat []
theorem R_putrow {W : World} {B gh n cap : Nat} {xs : List (List Int)} (h : (Kd.slice 5 (Kd.int .u8)).R 27 W B (fun _ => True) (.slice (some ⟨gh, 0, none⟩) n cap) xs) {i : Nat} (hi : i < xs.length) {u : Value} {x : List Int}
    (hu : (Kd.int .u8).R 5 W B (fun _ => True) u x) : (Kd.slice 5 (Kd.int .u8)).R 27 (W.setCell ⟨gh, i, none⟩ u) B (fun _ => True) (.slice (some ⟨gh, 0, none⟩) n cap) (xs.set i x) := by
  have hty := Kd.R_typed h
  have hn := (Kd.R_reads' h).1
  subst hn
  obtain ⟨h0, inner, ho, hr⟩ := h
  have hs := (ho.stored i u).1
  have hinn : inner.length = xs.length := by rw [hr.1]; simp [Kd.slice]
  refine ⟨fun _ _ => trivial, inner.set i u, by rw [List.length_set]; exact hs, ?_⟩
  have h1 := hr.imp_ (R' := (Kd.slice 5 (Kd.int .u8)).M (W.setCell ⟨gh, i, none⟩ u) B (fun k => True ∧ some k ≠ (Value.slice (some ⟨gh, 0, none⟩) xs.length cap).ownBlock))
    (fun p c hp => Kd.M_far hp (fun k hk e => hk.2 (by simp [Value.ownBlock, e])) u)
  have hM : (Kd.slice 5 (Kd.int .u8)).M (W.setCell ⟨gh, i, none⟩ u) B (fun k => True ∧ some k ≠ (Value.slice (some ⟨gh, 0, none⟩) xs.length cap).ownBlock) x [u] :=
    ⟨u, rfl, Kd.R_far (p := ⟨gh, i, none⟩) (Kd.R_apart' hu hty (by decide)) (fun k hk e => hk.2 (by simp [Value.ownBlock, e])) u⟩
  have h2 := Kd.reps_set h1 hi hM rfl
  have e : inner.take (i * 1) ++ [u] ++ inner.drop ((i + 1) * 1) = inner.set i u := by
    rw [Nat.mul_one, Nat.mul_one, List.set_eq_take_append_cons_drop, if_pos (by omega)]
    simp
  rw [← e]
  exact h2
theorem cell_far {w : World} {p a : Addr} {u v : Value} (h : w.cell? a = some v) (hne : ¬ a.block = p.block) : (w.setCell p u).drew.cell? a = some v := (World.cell?_of_block (w := w) (w' := (w.setCell p u).drew) (Below.heap_setCell w p u a.block hne)).trans h
set_option maxHeartbeats 4000000 in
set_option maxRecDepth 100000 in
theorem getNodes_calls (B g n : Nat) (ag : Value) (H : List (List (List Int))) (S : Nat → Prop) (vo : Value) (vs : List Value) (okI : Nat → Prop) (v : Value) (ids : List S106) (w : World)
    (hT : Tr w B g ag n H S vo vs) (hI : Kd.R k106 106 w B okI v ids) (hB : B ≤ w.heap.size) (hl : ids.length < 1099511627776) (hin : ∀ s ∈ ids, inH H s) :
    Calls Tryd.prog 78 #[.pointer (some ⟨g, 0, none⟩), v] w fun e w' => ∃ v0, e = .returned v0 ∧ (Kd.slice 5 (Kd.int .u8)).R 27 w' B (fun _ => True) v0 (ids.map (valH H)) ∧ Below w.heap.size w w' := by
  obtain ⟨A1, c1, rfl⟩ := Kd.R_slice hI
  have HC := Aside0.mk (Kd.R_reads' hI).2.2
  have HT := Aside0.mk hT
  have HI := Aside0.mk hin
  clear hT hI hin
  go_enter Tryd.func78, Tryd.ntmps78
  have hl0 : (0 : Int) ≤ (ids.length : Int) := by omega
  go_wp2_with ((with_reducible refine gate_dst (N := 10) rfl ?_); refine Kd.R_make (Kd.slice 5 (Kd.int .u8)) (w0 := w) B 27 rfl (N := 10) rfl 25 (.tmp 9) (.tmp 9) rfl (ids.length : Int) rfl rfl Tryd.underlying25 (.slice none 0 0) 24 info27 rfl (by decide) (by omega) ([] : List Int) (ok := fun _ => True) (okp := fun _ => True) ⟨_, rfl, Kd.R_nil _ _ _ _ _⟩ (fun _ h => h) trivial hl0 (by rw [Int.toNat_natCast]; omega) (Below.refl B w |> fun h => ⟨h.os, h.tape, h.output, h.size, fun k hk => rfl⟩) hB ?_; intro v1 w1 hR hb hg hat)
  rw [Int.toNat_natCast] at hR
  have e1 : (List.replicate ids.length ([] : List Int)).length = ids.length := List.length_replicate
  obtain ⟨Ah, ch, eh⟩ := Kd.R_slice hR
  rw [e1] at eh
  subst eh
  obtain ⟨gh, egh, hgh⟩ := hat
  cases Ah with
  | none => simp [Value.ownBlock] at egh
  | some ad =>
  obtain ⟨g', rfl⟩ := Kd.R_head hR
  have eg : g' = gh := by simpa [Value.ownBlock] using egh
  subst eg
  clear egh
  have hB1 : Below w.heap.size w w1 := ⟨hg.os, hg.tape, hg.output, hg.size, fun k hk => hg.block k hk (by simp)⟩
  have HR := Aside0.mk hR
  have HB1 := Aside0.mk hB1
  clear hR hB1 hb hg
  go_loopg [13] (ids.length + 1) (fun kq v13 w' => ∃ (i : Nat) (xs' : List (List Int)), v13 = .int .i64 (i : Int) ∧ i ≤ ids.length ∧ Aside0 (kq = ids.length + 1 - i) ∧ Aside0 (xs'.length = ids.length ∧ ∀ i', i' < i → xs'[i']? = (ids.map (valH H))[i']?) ∧ Aside0 ((Kd.slice 5 (Kd.int .u8)).R 27 w' B (fun _ => True) (.slice (some ⟨g', 0, none⟩) ids.length ch) xs') ∧ Aside0 (Below w.heap.size w w'))
  case atStart => exact ⟨0, _, rfl, by omega, ⟨by omega⟩, ⟨e1, fun i' h => by omega⟩, HR, HB1⟩
  case round =>
    clear HR HB1
    obtain ⟨i, xs', rfl, hi, HK1, HXS, HR, HBw⟩ := hrel
    cases gk with
    | zero => exact absurd HK1.out (by omega)
    | succ k1 =>
      by_cases c1' : i < ids.length
      · have hi0 : (0 : Int) ≤ (i : Int) := by omega
        have hi1 : (i : Int) < (ids.length : Int) := by omega
        obtain ⟨ad1, rfl, hc0, hc1⟩ := at_T106 (Kd.C_below HC.out HBw.out) (i : Int) hi0 hi1
        rw [Int.toNat_natCast] at hc0 hc1
        have es : rd_T106 ids (i : Int) = ids[i] := by unfold rd_T106; simp [c1']
        rw [es] at hc0 hc1
        obtain ⟨q0, q1, q2, q3⟩ := HI.out ids[i] (List.getElem_mem c1')
        have ev : valH H ids[i] = (H.getD ids[i].f0.toNat []).getD ids[i].f1.toNat [] := rfl
        have hgetv : (ids.map (valH H))[i]? = some (valH H ids[i]) := by rw [List.getElem?_map, List.getElem?_eq_getElem c1']; rfl
        obtain ⟨l, hl'⟩ := Int.eq_ofNat_of_zero_le q0
        obtain ⟨m, hm'⟩ := Int.eq_ofNat_of_zero_le q2
        rw [hl', Int.toNat_natCast] at q3
        rw [hl'] at hc0 q1
        rw [hm'] at hc1 q3
        rw [hl', hm', Int.toNat_natCast, Int.toNat_natCast] at ev
        obtain ⟨w3, hw3⟩ : ∃ w3, w3 = wr.alloc (.cells #[Value.int .u64 (l : Int), Value.int .u64 (m : Int)] 106) := ⟨_, rfl⟩
        have hB3 : Below w.heap.size w w3 := by rw [hw3]; exact below_alloc HBw.out _
        have hBr3 : Below wr.heap.size wr w3 := by rw [hw3]; exact below_alloc (Below.refl _ _) _
        have hT3 := HT.out.below hB3
        have hlenv : vs.length = H.length := hT3.len
        obtain ⟨go, co, rfl, hco, hBgo, hSgo, hgg⟩ := hT3.row (by omega)
        obtain ⟨vl, xl, hv, hxl, hL⟩ := hT3.at_ (j := l) (by omega)
        have exl : H.getD l [] = xl := by rw [List.getD_eq_getElem?_getD, hxl]; rfl
        rw [exl] at q3 ev
        obtain ⟨Al, cl, rfl⟩ := Kd.R_slice hL
        cases Al with
        | none =>
          exfalso
          obtain ⟨_, inner, ho, _⟩ := hL
          rcases ho.2 with ⟨_, h0⟩ | ⟨g', cap', cur, hv', _⟩
          · omega
          · cases hv'
        | some adl =>
        obtain ⟨gl, rfl⟩ := Kd.R_head hL
        obtain ⟨cc, hcl, hM, hcell⟩ := Kd.R_getA hL ([] : List Int) (m : Int) (by omega) (by omega)
        obtain ⟨ve, rfl, hE⟩ := hM
        have ecl : w3.cell? ⟨gl, m, none⟩ = some ve := by
          have e := hcell 0 _ rfl
          rw [show (Kd.slice 5 (Kd.int .u8)).sz = 1 from rfl, Nat.mul_one, Nat.add_zero, add_at, Nat.zero_add, Int.toNat_natCast] at e
          exact e
        rw [Int.toNat_natCast, ← ev] at hE
        clear hcell hcl
        have ecg := hT3.cell.2.2
        have ecl2 := (hT3.rowCell l (by omega)).trans hv
        have hgl : gl < w.heap.size := by
          obtain ⟨v', x', hv', hx', hL'⟩ := HT.out.at_ (j := l) (by omega)
          rw [hv] at hv'
          cases hv'
          obtain ⟨inn, ho⟩ := hL'.own
          exact own_lt ho gl rfl
        have hgo : go < w.heap.size := own_lt HT.out.out go rfl
        have hg0 : g < w.heap.size := blk_lt HT.out.blk
        have hR3 := Kd.R_below HR.out hBr3
        have hg'r : g' < wr.heap.size := Kd.R_lt HR.out g' rfl
        obtain ⟨inner, hown⟩ := Kd.R_own hR3
        have hown : w3.ownsRow B 27 1 (.slice (some ⟨g', 0, none⟩) ids.length ch) ids.length inner := by rw [HXS.out.1] at hown; exact hown
        have eci := hown.cellAt i (by omega)
        have efi := hown.frozenAt i
        have hil : inner.length = ids.length := by have := hown.1; omega
        obtain ⟨u0, hu0⟩ : ∃ u0, inner[i]? = some u0 := ⟨_, List.getElem?_eq_getElem (by omega)⟩
        rw [hu0] at eci
        obtain ⟨Ae, ce, rfl⟩ := Kd.R_slice hE
        have ecb0 : w3.cell? ⟨wr.heap.size, 0, none⟩ = some (.int .u64 (l : Int)) := by rw [hw3]; exact (blk_cell (blk_new wr _) 0).trans rfl
        have ecb1 : w3.cell? ⟨wr.heap.size, 1, none⟩ = some (.int .u64 (m : Int)) := by rw [hw3]; exact (blk_cell (blk_new wr _) 1).trans rfl
        have n1 : ¬ g = g' := by omega
        have n2 : ¬ go = g' := by omega
        have n3 : ¬ gl = g' := by omega
        have n4 : ¬ wr.heap.size = g' := by omega
        have HE := Aside0.mk (Kd.R_mono (ok' := fun _ => True) hE (fun _ _ => trivial))
        have HR3 := Aside0.mk hR3
        have HB3 := Aside0.mk hB3
        have HGV := Aside0.mk hgetv
        have il1 : (l : Int) < (vs.length : Int) := by omega
        have il0 : (0 : Int) ≤ (l : Int) := by omega
        have im0 : (0 : Int) ≤ (m : Int) := by omega
        clear hE hR3 hB3 hBr3 hT3 hL ev hgetv hxl exl hv hown hil hco hu0
        go_wp2
        rw [← hw3]
        clear hw3
        generalize wr.heap.size = b at ecb0 ecb1 n4 hg'r ⊢
        go_region_held3 (fun w' => w'.cell? ⟨g, 2, none⟩ = some (.slice (some ⟨go, 0, none⟩) vs.length co) ∧ w'.cell? ⟨go, l, none⟩ = some (.slice (some ⟨gl, 0, none⟩) xl.length cl) ∧ w'.cell? ⟨gl, m, none⟩ = some (.slice Ae (valH H ids[i]).length ce) ∧ w'.cell? ⟨b, 0, none⟩ = some (.int .u64 (l : Int)) ∧ w'.cell? ⟨b, 1, none⟩ = some (.int .u64 (m : Int))) (first | exact ⟨cell_far ecg n1, cell_far ecl2 n2, cell_far ecl n3, cell_far ecb0 n4, cell_far ecb1 n4⟩ | go_keep) (fail)
        go_wp2
        go_roundg k1
        case measure => have := HK1.out; omega
        case rel =>
          have hHE : (Kd.int .u8).R 5 w3 B (fun _ => True) (.slice Ae (valH H ids[i]).length ce) (valH H ids[i]) := HE.out
          refine ⟨i + 1, xs'.set i (valH H ids[i]), by simp, by omega, ⟨by have := HK1.out; omega⟩, ⟨by rw [List.length_set]; exact HXS.out.1, ?_⟩, ⟨?_⟩, ⟨?_⟩⟩
          · intro i' hi'
            by_cases e : i' = i
            · subst e
              rw [List.getElem?_set_self (by have := HXS.out.1; omega), HGV.out]
            · rw [List.getElem?_set_ne (Ne.symm e)]
              exact HXS.out.2 i' (by omega)
          · exact Kd.R_drew (R_putrow HR3.out (by have := HXS.out.1; omega) hHE)
          · exact (below_drew HB3.out).setCell hgh _
      · have ei : i = ids.length := by omega
        subst ei
        have hnlt : ¬ ((ids.length : Int) < (ids.length : Int)) := by omega
        go_wp2
        go_ret
        have e : xs' = ids.map (valH H) := by
          apply List.ext_getElem?
          intro i'
          by_cases hi' : i' < ids.length
          · exact HXS.out.2 i' hi'
          · rw [List.getElem?_eq_none (by have := HXS.out.1; omega), List.getElem?_eq_none (by simp; omega)]
        have hR := HR.out
        rw [e] at hR
        exact ⟨_, rfl, hR, HBw.out⟩
set_option linter.unusedVariables false
set_option linter.unusedSimpArgs false

def adds (hc : List Int → List Int → Option (List Int)) (kf : Nat) : Nat → List (List (List Int)) → List (List Int) → Option (List (List (List Int)))
  | _, H, [] => some H
  | n, H, x :: rest => if n < 4611686018427387904 then (up hc n kf H 0 x).bind fun H' => adds hc kf (n + 1) H' rest else none

set_option maxHeartbeats 4000000 in
set_option maxRecDepth 100000 in
theorem new_calls (ag : Value) (hag : ∃ t v, ag = .iface t v) (w : World) :
    Calls Tryd.prog 44 #[ag] w fun e w' => e = .returned (.pointer (some ⟨w.heap.size, 0, none⟩)) ∧ Tr w' w.heap.size w.heap.size ag 0 [] (fun k => k = w.heap.size) (.slice none 0 0) [] ∧ Below w.heap.size w w' := by
  obtain ⟨t, v, rfl⟩ := hag
  go_enter Tryd.func44, Tryd.ntmps44
  go_wp2
  go_ret
  refine ⟨rfl, ⟨blk_new w _, Nat.le_refl _, World.ownsRow_nil _ _ _ _, rfl, ?_, ?_, rfl, ?_, ?_⟩, below_alloc (Below.refl _ _) _⟩
  · intro j v x h1 _; simp at h1
  · intro i j u v k _ h1 _ _; simp at h1
  · intro k hk; simp [Value.ownBlock] at hk
  · intro j v k h1 _; simp at h1

set_option maxHeartbeats 4000000 in
set_option maxRecDepth 100000 in
theorem append_calls (k kf : Nat) (a0 a1 a2 a3 a4 a5 : Int) (B g n : Nat) (H r : List (List (List Int))) (S : Nat → Prop) (vo : Value) (vs : List Value) (v : Value) (xs : List (List Int)) (w : World)
    (hT : Tr w B g (agOf a0 a1 a2 a3 a4 a5) n H S vo vs) (hx : (Kd.slice 5 (Kd.int .u8)).R 27 w B (fun k => ¬ S k) v xs) (hB : B ≤ w.heap.size) (hl : xs.length < 1099511627776)
    (h : adds (fun l r => impl_toy_HashChildren.f k a0 a1 a2 a3 a4 a5 l r) kf n H xs = some r) :
    Calls Tryd.prog 45 #[.pointer (some ⟨g, 0, none⟩), v] w fun e w' => e = .returned (.tuple #[]) ∧ ∃ vo' vs', Tr w' B g (agOf a0 a1 a2 a3 a4 a5) (n + xs.length) r (fun k => S k ∨ w.heap.size ≤ k) vo' vs' ∧ Kept w w' S ∧ Below B w w' := by
  obtain ⟨A1, c1, rfl⟩ := Kd.R_slice hx
  have HT := Aside0.mk hT
  have HX := Aside0.mk (Kd.R_mono (ok' := fun k => ¬ S k ∧ k < w.heap.size) (Kd.R_bound hx) (fun k hk => ⟨hk.1, hk.2.2.1⟩))
  have H' := Aside0.mk h
  clear hT hx h
  go_enter Tryd.func45, Tryd.ntmps45
  go_wp2
  go_loopg [8] (xs.length + 1) (fun kq v8 w' => ∃ (vo' : Value) (vs' : List Value) (H1 : List (List (List Int))) (i : Nat), v8 = .int .i64 (i : Int) ∧ i ≤ xs.length ∧ Aside0 (adds (fun l r => impl_toy_HashChildren.f k a0 a1 a2 a3 a4 a5 l r) kf (n + i) H1 (xs.drop i) = some r) ∧ Aside0 (kq = xs.length + 1 - i) ∧ Aside0 (Tr w' B g (agOf a0 a1 a2 a3 a4 a5) (n + i) H1 (fun k => S k ∨ w.heap.size ≤ k) vo' vs') ∧ Aside0 ((Kd.slice 5 (Kd.int .u8)).R 27 w' B (fun k => ¬ S k ∧ k < w.heap.size) (.slice A1 xs.length c1) xs) ∧ Aside0 (Kept w w' S) ∧ Aside0 (Below B w w'))
  case atStart => exact ⟨vo, vs, H, 0, rfl, by omega, H', ⟨by omega⟩, ⟨HT.out.mono (fun _ h => .inl h)⟩, HX, ⟨Kept.refl _ _⟩, ⟨Below.refl _ _⟩⟩
  case round =>
    clear H'
    obtain ⟨vo', vs', H1, i, rfl, hi, HA, HK1, HT1, HX1, HKe, HBe⟩ := hrel
    cases gk with
    | zero => exact absurd HK1.out (by omega)
    | succ k1 =>
      have hbw : B ≤ wr.heap.size := Nat.le_trans hB HBe.out.size
      by_cases c1' : i < xs.length
      · have hx0 : xs.drop i = xs[i] :: xs.drop (i + 1) := List.drop_eq_getElem_cons c1'
        have H := HA.out
        rw [hx0] at H
        simp only [adds] at H
        by_cases c2 : n + i < 4611686018427387904
        · rw [if_pos c2] at H
          obtain ⟨H2, hH2, H⟩ := Option.bind_eq_some_iff.mp H
          have HU := Aside0.mk hH2
          have HN := Aside0.mk H
          clear H hH2 HA hx0
          have hi0 : (0 : Int) ≤ (i : Int) := by omega
          have hi1 : (i : Int) < (xs.length : Int) := by omega
          cases A1 with
          | none =>
            exfalso
            obtain ⟨_, inner, ho, _⟩ := HX1.out
            rcases ho.2 with ⟨_, h0⟩ | ⟨g', cap', cur, hv', _⟩
            · omega
            · cases hv'
          | some ad =>
          obtain ⟨gx, rfl⟩ := Kd.R_head HX1.out
          obtain ⟨cc, hcl, hM, hcell⟩ := Kd.R_getA HX1.out ([] : List Int) (i : Int) hi0 hi1
          obtain ⟨ve, rfl, hE⟩ := hM
          rw [show xs.getD (i : Int).toNat [] = xs[i] by simp [c1']] at hE
          have ecx : wr.cell? ⟨gx, i, none⟩ = some ve := by
            have e := hcell 0 _ rfl
            rw [show (Kd.slice 5 (Kd.int .u8)).sz = 1 from rfl, Nat.mul_one, Nat.add_zero, add_at, Nat.zero_add, Int.toNat_natCast] at e
            exact e
          clear hcell hcl
          have HE := Aside0.mk (Kd.R_mono (ok' := fun _ => True) hE (fun _ _ => trivial))
          clear hE
          go_wp2_with (go_at_call 77; (with_reducible refine (appendImpl_calls k kf a0 a1 a2 a3 a4 a5 B g (n + i) H1 H2 (fun k => S k ∨ w.heap.size ≤ k) vo' vs' ve xs[i] wr HT1.out HE.out hbw c2 HU.out).mono ?_); rintro e w1 ⟨rfl, vo1, vs1, hT1, hK1, hB1⟩)
          go_roundg k1
          case measure => have := HK1.out; omega
          case rel =>
            refine ⟨vo1, vs1, H2, i + 1, by simp, by omega, ⟨HN.out⟩, ⟨by have := HK1.out; omega⟩, ⟨hT1.mono (fun k hk => hk.elim id (fun hk => .inr (Nat.le_trans HKe.out.1 hk)))⟩, ⟨?_⟩, ⟨?_⟩, ⟨?_⟩⟩
            · exact Kd.R_kept HX1.out hK1 (fun k hk hs => hs.elim hk.1 (fun h2 => by omega))
            · exact HKe.out.then_ hK1 (fun k hk => hk)
            · exact HBe.out.trans hB1
        · rw [if_neg c2] at H
          exact absurd H (by simp)
      · have ei : i = xs.length := by omega
        subst ei
        have H := HA.out
        rw [List.drop_length] at H
        simp only [adds] at H
        have HR := Aside0.mk (Option.some.inj H)
        clear H
        have hnlt : ¬ ((xs.length : Int) < (xs.length : Int)) := by omega
        go_wp2
        go_end0
        have hT2 := HT1.out
        rw [HR.out] at hT2
        exact ⟨rfl, ⟨_, _, hT2⟩, HKe.out, HBe.out⟩
set_option linter.unusedVariables false
set_option linter.unusedSimpArgs false

def down (hc : List Int → List Int → Option (List Int)) (hs : List (List Int)) : Nat → List Int → Option (List Int)
  | 0, acc => some acc
  | i + 1, acc => (hc (hs.getD i []) acc).bind fun y => down hc hs i y
def hashAt (k : Nat) (a0 a1 a2 a3 a4 a5 : Int) (H : List (List (List Int))) (size : Int) : Option (List Int) :=
  if size = 0 then impl_toy_EmptyRoot.f k a0 a1 a2 a3 a4 a5 else
    (compact_RangeNodes.f k 0 size []).bind fun ids => if 0 < ids.length ∧ ids.length < 1099511627776 ∧ ∀ s ∈ ids, inH H s then
      down (fun l r => impl_toy_HashChildren.f k a0 a1 a2 a3 a4 a5 l r) (ids.map (valH H)) (ids.length - 1) ((ids.map (valH H)).getD (ids.length - 1) []) else none
/-- An element of a row of texts: its cell, and what it leads to. -/
theorem row_elem {w : World} {B gh n c : Nat} {hs : List (List Int)} (h : (Kd.slice 5 (Kd.int .u8)).R 27 w B (fun _ => True) (.slice (some ⟨gh, 0, none⟩) n c) hs) (i : Nat) (hi : i < n) :
    ∃ A d, w.cell? ⟨gh, i, none⟩ = some (.slice A (hs.getD i []).length d) ∧ (Kd.int .u8).R 5 w B (fun _ => True) (.slice A (hs.getD i []).length d) (hs.getD i []) := by
  obtain ⟨cc, hcl, hM, hcell⟩ := Kd.R_getA h ([] : List Int) (i : Int) (by omega) (by omega)
  obtain ⟨ve, rfl, hE⟩ := hM
  rw [Int.toNat_natCast] at hE
  have e := hcell 0 _ rfl
  rw [show (Kd.slice 5 (Kd.int .u8)).sz = 1 from rfl, Nat.mul_one, Nat.add_zero, add_at, Nat.zero_add, Int.toNat_natCast] at e
  obtain ⟨A, d, rfl⟩ := Kd.R_slice hE
  exact ⟨A, d, e, Kd.R_mono hE (fun _ _ => trivial)⟩
theorem row_some {w : World} {B : Nat} {v : Value} {hs : List (List Int)} (h : (Kd.slice 5 (Kd.int .u8)).R 27 w B (fun _ => True) v hs) (hn : 0 < hs.length) : ∃ gh c, v = .slice (some ⟨gh, 0, none⟩) hs.length c := by
  obtain ⟨inner, ho⟩ := Kd.R_own h
  obtain ⟨g, c, e, _⟩ := own_some ho hn
  exact ⟨g, c, e⟩
set_option maxHeartbeats 4000000 in
set_option maxRecDepth 100000 in
theorem hashAt_calls (k : Nat) (a0 a1 a2 a3 a4 a5 : Int) (B g n : Nat) (H : List (List (List Int))) (S : Nat → Prop) (vo : Value) (vs : List Value) (size : Int) (r : List Int) (w : World)
    (hT : Tr w B g (agOf a0 a1 a2 a3 a4 a5) n H S vo vs) (hB : B ≤ w.heap.size) (hTab : TabOK w) (h : hashAt k a0 a1 a2 a3 a4 a5 H size = some r) :
    Calls Tryd.prog 47 #[.pointer (some ⟨g, 0, none⟩), .int .u64 size] w fun e w' => ∃ v0, e = .returned v0 ∧ (Kd.int .u8).R 5 w' B (fun _ => True) v0 r ∧ Below w.heap.size w w' := by
  have HT := Aside0.mk hT
  have HTab := Aside0.mk hTab
  obtain ⟨e0, _, _⟩ := hT.cell
  unfold agOf at e0
  clear hT hTab
  unfold hashAt at h
  go_enter Tryd.func47, Tryd.ntmps47
  by_cases c1 : size = 0
  · rw [if_pos c1] at h
    have H' := Aside0.mk h
    clear h
    go_wp2_with ((with_reducible refine gate_invoke (m := "EmptyRoot") rfl ?_); refine invokesL_ (some 14) rfl rfl Tryd.func137 (by kernel_rfl) rfl 85 (.agg #[.int .i64 a0, .int .i64 a1, .int .i64 a2, .int .u64 a3, .int .u64 a4, .int .u64 a5]) #[] #[.agg #[.int .i64 a0, .int .i64 a1, .int .i64 a2, .int .u64 a3, .int .u64 a4, .int .u64 a5]] rfl rfl (by first | rfl | (simp only [Act.eval]; rfl)) (by (try simp only [List.map_toArray, List.map_cons, List.map_nil]); first | done | rfl) (fun _ => by kernel_rfl) ?_; (with_reducible refine (impl_toy_EmptyRoot.calls k a0 a1 a2 a3 a4 a5 r _ H'.out).mono ?_); rintro e w2 ⟨v2, rfl, ho2, hb2⟩; refine ⟨_, rfl, ?_⟩; have HO := Aside0.mk (Kd.R_lower ho2 hB); have HB2 := Aside0.mk hb2; clear ho2 hb2)
    go_ret
    exact ⟨_, rfl, HO.out, HB2.out⟩
  · rw [if_neg c1] at h
    obtain ⟨ids, hids, h⟩ := Option.bind_eq_some_iff.mp h
    by_cases c2 : 0 < ids.length ∧ ids.length < 1099511627776 ∧ ∀ s ∈ ids, inH H s
    · rw [if_pos c2] at h
      obtain ⟨c3, c4, c5⟩ := c2
      have H' := Aside0.mk h
      have HI := Aside0.mk hids
      have HC := Aside0.mk c5
      clear h hids c5
      go_wp2_with (first
        | (go_at_call 79; (with_reducible refine (compact_RangeNodes.calls k 0 size (fun _ => True) (.slice none 0 0) [] ids w w HTab.out (Below.refl _ _) (Kd.R_nil _ _ _ _ _) HI.out).mono ?_); rintro e w1 ⟨v1, rfl, hR1, hB1, _⟩)
        | (go_at_call 78; (with_reducible refine (getNodes_calls B g n _ H S vo vs _ v1 ids w1 (HT.out.below hB1) (Kd.R_lower hR1 hB) (Nat.le_trans hB hB1.size) c4 HC.out).mono ?_); rintro e w2 ⟨v2, rfl, hR2, hB2⟩; obtain ⟨gh, ch, eh⟩ := row_some hR2 (by simpa using c3); rw [List.length_map] at eh; subst eh; have HB12 := Aside0.mk (below_step hB1 hB2); have HR2 := Aside0.mk hR2; clear hR1 hR2 hB1 hB2; obtain ⟨m, hm⟩ : ∃ m, ids.length = m + 1 := ⟨ids.length - 1, by omega⟩; obtain ⟨Ae, de, ec, hE⟩ := row_elem HR2.out m (by omega); generalize hx0 : (ids.map (valH H)).getD m [] = x0 at ec hE; have HX0 := Aside0.mk hx0; clear hx0; have HE := Aside0.mk hE; clear hE; have hw1 : IntKind.i64.wrap ((ids.length : Int) - 1) = (m : Int) := (by rw [i64_w]; unfold wrap64; omega); have hw2 : IntKind.i64.wrap ((ids.length : Int) - 2) = (m : Int) - 1 := (by rw [i64_w]; unfold wrap64; omega); have hm0 : (0 : Int) ≤ (m : Int) := (by omega); have hm1 : (m : Int) < (ids.length : Int) := (by omega); have HM := Aside0.mk hm; clear hm))
      have hD := H'.out
      rw [show ids.length - 1 = m by have := HM.out; omega, HX0.out] at hD
      have HD := Aside0.mk hD
      clear hD H'
      go_loopg [6, 7] ids.length (fun kq v6 v7 w' => ∃ (i : Nat) (z : Int) (A6 : Option Addr) (c6 : Nat) (acc : List Int), v6 = .slice A6 acc.length c6 ∧ v7 = .int .i64 z ∧ Aside0 (z = (i : Int) - 1) ∧ Aside0 (i < ids.length) ∧ Aside0 (kq = i + 1) ∧ Aside0 (down (fun l r => impl_toy_HashChildren.f k a0 a1 a2 a3 a4 a5 l r) (ids.map (valH H)) i acc = some r) ∧ Aside0 ((Kd.int .u8).R 5 w' B (fun _ => True) v6 acc) ∧ Aside0 ((Kd.slice 5 (Kd.int .u8)).R 27 w' B (fun _ => True) (.slice (some ⟨gh, 0, none⟩) ids.length ch) (ids.map (valH H))) ∧ Aside0 (Below w.heap.size w w'))
      case atStart => exact ⟨m, (m : Int) - 1, Ae, de, _, rfl, rfl, ⟨rfl⟩, ⟨by omega⟩, ⟨by have := HM.out; omega⟩, HD, HE, HR2, HB12⟩
      case round =>
        clear HD HE HR2 HB12
        obtain ⟨i, z, A6, c6, acc, rfl, rfl, HZ, HI1, HK1, HA, HE, HR2, HBw⟩ := hrel
        cases gk with
        | zero => exact absurd HK1.out (by omega)
        | succ k1 =>
          cases i with
          | zero =>
            have hz : z = -1 := by have := HZ.out; omega
            subst hz
            have hA := HA.out
            simp only [down] at hA
            have HRe := Aside0.mk (Option.some.inj hA)
            clear hA
            go_wp2
            go_ret
            have hE := HE.out
            refine ⟨_, rfl, ?_, HBw.out⟩
            rw [← HRe.out]
            exact hE
          | succ i =>
            have hz : z = (i : Int) := by have := HZ.out; omega
            subst hz
            have hA := HA.out
            simp only [down] at hA
            obtain ⟨y, hy, hA⟩ := Option.bind_eq_some_iff.mp hA
            have HY := Aside0.mk hy
            have HN := Aside0.mk hA
            clear hA hy HA
            have hi0 : (0 : Int) ≤ (i : Int) := by omega
            have hi1 : (i : Int) < (ids.length : Int) := by have := HI1.out; omega
            obtain ⟨Ax, dx, ecx, hX⟩ := row_elem HR2.out i (by have := HI1.out; omega)
            have HX := Aside0.mk hX
            clear hX
            have e0w : wr.cell? ⟨g, 0, none⟩ = some (.iface 85 (.agg #[.int .i64 a0, .int .i64 a1, .int .i64 a2, .int .u64 a3, .int .u64 a4, .int .u64 a5])) := (HBw.out.cell (World.block_lt_of_cell? w ⟨g, 0, none⟩ e0)).trans e0
            have hwz : IntKind.i64.wrap ((i : Int) - 1) = (i : Int) - 1 := by rw [i64_w]; unfold wrap64; have := HI1.out; omega
            generalize hxe : (ids.map (valH H)).getD i [] = xe at ecx HX HY
            go_wp2
            go_still_tail 11, (by kernel_rfl)
            go_wp2_with ((with_reducible refine gate_invoke (m := "HashChildren") rfl ?_); refine invokesL_ (some 43) rfl rfl Tryd.func52 (by kernel_rfl) rfl 85 (.agg #[.int .i64 a0, .int .i64 a1, .int .i64 a2, .int .u64 a3, .int .u64 a4, .int .u64 a5]) #[.slice Ax xe.length dx, .slice A6 acc.length c6] #[.agg #[.int .i64 a0, .int .i64 a1, .int .i64 a2, .int .u64 a3, .int .u64 a4, .int .u64 a5], .slice Ax xe.length dx, .slice A6 acc.length c6] rfl rfl (by first | rfl | (simp only [Act.eval]; rfl)) (by (try simp only [List.map_toArray, List.map_cons, List.map_nil]); first | done | rfl) (fun _ => by kernel_rfl) ?_; (with_reducible refine (impl_toy_HashChildren.calls k a0 a1 a2 a3 a4 a5 _ _ xe _ _ acc y _ ?side1 ?side2 ?side3 ?side4 HY.out).mono ?_); (case side1 => exact Kd.C_drew (Kd.R_reads' HX.out).2.2); (case side2 => exact (Kd.R_reads' HX.out).2.1); (case side3 => exact Kd.C_drew (Kd.R_reads' HE.out).2.2); (case side4 => exact (Kd.R_reads' HE.out).2.1); rintro e w2 ⟨v2, rfl, ho2, hb2⟩; refine ⟨_, rfl, ?_⟩; have hb3 := below_step (below_drew (Below.refl wr.heap.size wr)) hb2; have HY2 := Aside0.mk ho2; have HB3 := Aside0.mk hb3; clear ho2 hb2 hb3)
            go_roundg k1
            case measure => have := HK1.out; omega
            case rel =>
              obtain ⟨A7, c7, rfl⟩ := Kd.R_slice HY2.out
              exact ⟨i, (i : Int) - 1, A7, c7, y, rfl, rfl, ⟨rfl⟩, ⟨by have := HI1.out; omega⟩, ⟨by have := HK1.out; omega⟩, HN, ⟨Kd.R_lower HY2.out (Nat.le_trans hB HBw.out.size)⟩, ⟨Kd.R_below HR2.out HB3.out⟩, ⟨below_step HBw.out HB3.out⟩⟩
    · rw [if_neg c2] at h
      exact absurd h (by simp)
set_option linter.unusedVariables false
set_option linter.unusedSimpArgs false

def impl_TreeRoot.f (k : Nat) (a0_0 a0_1 a0_2 a0_3 a0_4 a0_5 : Int) (l1 : List (List Int)) (a2 : Int) : Option (List Int × Bool) :=
  if IntKind.u64.wrap (l1.length : Int) < a2 then some ([], false) else
    (impl_texts.f k l1).bind fun l => if l.length < 1099511627776 then (adds (fun l r => impl_toy_HashChildren.f k a0_0 a0_1 a0_2 a0_3 a0_4 a0_5 l r) k 0 [] l).bind fun H => (hashAt k a0_0 a0_1 a0_2 a0_3 a0_4 a0_5 H a2).bind fun r => some (r, true) else none
theorem up_mono {hc hc' : List Int → List Int → Option (List Int)} (hm : ∀ a b, LeO (hc a b) (hc' a b)) (n : Nat) : ∀ (k : Nat) (H : List (List (List Int))) (j : Nat) (x : List Int), LeO (up hc n k H j x) (up hc' n (k + 1) H j x)
  | 0, H, j, x => fun r h => by simp [up] at h
  | k + 1, H, j, x => by
    rw [up, up]
    repeat' first
      | exact hm _ _
      | exact up_mono hm n k _ _ _
      | exact LeO.refl _
      | refine LeO.ite ?_ ?_
      | refine LeO.bind ?_ (fun _ => ?_)
theorem adds_mono {hc hc' : List Int → List Int → Option (List Int)} (hm : ∀ a b, LeO (hc a b) (hc' a b)) (kf : Nat) : ∀ (xs : List (List Int)) (n : Nat) (H : List (List (List Int))), LeO (adds hc kf n H xs) (adds hc' (kf + 1) n H xs)
  | [], n, H => by rw [adds, adds]; exact LeO.refl _
  | x :: rest, n, H => by
    rw [adds, adds]
    repeat' first
      | exact up_mono hm _ _ _ _ _
      | exact adds_mono hm kf rest _ _
      | exact LeO.refl _
      | refine LeO.ite ?_ ?_
      | refine LeO.bind ?_ (fun _ => ?_)
theorem down_mono {hc hc' : List Int → List Int → Option (List Int)} (hm : ∀ a b, LeO (hc a b) (hc' a b)) (hs : List (List Int)) : ∀ (i : Nat) (acc : List Int), LeO (down hc hs i acc) (down hc' hs i acc)
  | 0, acc => by rw [down, down]; exact LeO.refl _
  | i + 1, acc => by
    rw [down, down]
    exact LeO.bind (hm _ _) (fun _ => down_mono hm hs i _)
theorem hashAt_mono (k : Nat) (a0 a1 a2 a3 a4 a5 : Int) (H : List (List (List Int))) (size : Int) : LeO (hashAt k a0 a1 a2 a3 a4 a5 H size) (hashAt (k + 1) a0 a1 a2 a3 a4 a5 H size) := by
  unfold hashAt
  repeat' first
    | exact impl_toy_EmptyRoot.mono _ _ _ _ _ _ _
    | exact compact_RangeNodes.mono _ _ _ _
    | exact down_mono (fun _ _ => impl_toy_HashChildren.mono _ _ _ _ _ _ _ _ _) _ _ _
    | exact LeO.refl _
    | refine LeO.ite ?_ ?_
    | refine LeO.bind ?_ (fun _ => ?_)
theorem impl_TreeRoot.mono : ∀ a0_0 a0_1 a0_2 a0_3 a0_4 a0_5 l1 a2 k, LeO (impl_TreeRoot.f k a0_0 a0_1 a0_2 a0_3 a0_4 a0_5 l1 a2) (impl_TreeRoot.f (k + 1) a0_0 a0_1 a0_2 a0_3 a0_4 a0_5 l1 a2) := by
  intro a0_0 a0_1 a0_2 a0_3 a0_4 a0_5 l1 a2 k
  unfold impl_TreeRoot.f
  repeat' first
    | exact impl_texts.mono _ _
    | exact adds_mono (fun _ _ => impl_toy_HashChildren.mono _ _ _ _ _ _ _ _ _) _ _ _ _
    | exact hashAt_mono _ _ _ _ _ _ _ _ _
    | exact LeO.refl _
    | refine LeO.ite ?_ ?_
    | refine LeO.bind ?_ (fun _ => ?_)
set_option maxHeartbeats 4000000 in
set_option maxRecDepth 100000 in
theorem impl_TreeRoot.calls (k : Nat) (a0_0 a0_1 a0_2 a0_3 a0_4 a0_5 : Int) (A1 : Option Addr) (c1 : Nat) (l1 : List (List Int)) (a2 : Int) (r1 : List Int) (r2 : Bool) (w : World) (hT : TabOK w)
    (hr1 : Kd.C (Kd.slice 5 (Kd.int .u8)) w A1 l1.length l1) (hc1 : l1.length ≤ c1) (h : impl_TreeRoot.f k a0_0 a0_1 a0_2 a0_3 a0_4 a0_5 l1 a2 = some (r1, r2)) :
    Calls Tryd.prog 14 #[.agg #[.int .i64 a0_0, .int .i64 a0_1, .int .i64 a0_2, .int .u64 a0_3, .int .u64 a0_4, .int .u64 a0_5], .slice A1 l1.length c1, .int .u64 a2] w fun e w' => ∃ v0_ : Value, e = .returned (.tuple #[v0_, .bool r2]) ∧ Kd.R (Kd.int .u8) 5 w' w.heap.size (fun _ => True) v0_ r1 ∧ Below w.heap.size w w' := by
  have HTab := Aside0.mk hT
  have HR1 := Aside0.mk hr1
  have HC1 := Aside0.mk hc1
  clear hT hr1 hc1
  unfold impl_TreeRoot.f at h
  go_enter Tryd.func14, Tryd.ntmps14
  by_cases c1' : IntKind.u64.wrap (l1.length : Int) < a2
  · rw [if_pos c1'] at h
    injection h with h
    injection h with h1 h2
    subst h1 h2
    go_wp2
    go_ret2
    exact ⟨_, rfl, Kd.R_nil _ _ _ _ _, below_alloc (Below.refl _ _) _⟩
  · rw [if_neg c1'] at h
    obtain ⟨l, hl, h⟩ := Option.bind_eq_some_iff.mp h
    by_cases c2 : l.length < 1099511627776
    · rw [if_pos c2] at h
      obtain ⟨H, hH, h⟩ := Option.bind_eq_some_iff.mp h
      obtain ⟨r, hr, h⟩ := Option.bind_eq_some_iff.mp h
      injection h with h
      injection h with h1 h2
      subst h1 h2
      have HL := Aside0.mk hl
      have HH := Aside0.mk hH
      have HRr := Aside0.mk hr
      clear hl hH hr
      have hBA : Below w.heap.size w (w.alloc (.cells #[.int .i64 a0_0, .int .i64 a0_1, .int .i64 a0_2, .int .u64 a0_3, .int .u64 a0_4, .int .u64 a0_5] 24)) := below_alloc (Below.refl _ _) _
      go_wp2_with (first
        | (go_at_call 44; generalize w.alloc (.cells #[.int .i64 a0_0, .int .i64 a0_1, .int .i64 a0_2, .int .u64 a0_3, .int .u64 a0_4, .int .u64 a0_5] 24) = wA at hBA ⊢; (with_reducible refine (new_calls (.iface 85 (.agg #[.int .i64 a0_0, .int .i64 a0_1, .int .i64 a0_2, .int .u64 a0_3, .int .u64 a0_4, .int .u64 a0_5])) ⟨_, _, rfl⟩ wA).mono ?_); rintro e w1 ⟨rfl, hT1, hB1⟩; have hB01 := below_then hBA hBA.size hB1; have hgA : wA.heap.size < w1.heap.size := blk_lt hT1.blk; have HT1 := Aside0.mk (show Tr w1 wA.heap.size wA.heap.size (agOf a0_0 a0_1 a0_2 a0_3 a0_4 a0_5) 0 [] (fun k => k = wA.heap.size) (.slice none 0 0) [] from hT1); have HB01 := Aside0.mk hB01; clear hT1 hB01 hB1)
        | (go_at_call 46; (with_reducible refine (impl_texts.calls k A1 c1 l1 l w1 (Kd.C_below HR1.out HB01.out) HC1.out HL.out).mono ?_); rintro e w2 ⟨v2, rfl, hS2, hB2⟩; have hT2 := HT1.out.below hB2; have hR2 := Kd.R_lower (Kd.R_mono (ok' := fun k => ¬ (k = wA.heap.size)) (Kd.R_bound (Kd.S_R hS2)) (fun k hk => by have := hk.2.1; omega)) (Nat.le_of_lt hgA); have hB02 := below_step HB01.out hB2; have hA2 : wA.heap.size ≤ w2.heap.size := Nat.le_trans (Nat.le_of_lt hgA) hB2.size; have HT2 := Aside0.mk hT2; have HR2 := Aside0.mk hR2; have HB02 := Aside0.mk hB02; clear hT2 hR2 hB02 hS2 hB2)
        | (go_at_call 45; (with_reducible refine (append_calls k k a0_0 a0_1 a0_2 a0_3 a0_4 a0_5 wA.heap.size wA.heap.size 0 [] H (fun k => k = wA.heap.size) (.slice none 0 0) [] v2 l w2 HT2.out HR2.out hA2 c2 HH.out).mono ?_); rintro e w3 ⟨rfl, vo3, vs3, hT3, hK3, hB3⟩; have hB03 := HB02.out.trans (hB3.mono hBA.size); have HT3 := Aside0.mk hT3; have HB03 := Aside0.mk hB03; have hA3 : wA.heap.size ≤ w3.heap.size := Nat.le_trans hA2 hB3.size; have HTab3 := Aside0.mk (TabOK.below HTab.out hB03); clear hT3 hB03 hK3 hB3)
        | (go_at_call 47; (with_reducible refine (hashAt_calls k a0_0 a0_1 a0_2 a0_3 a0_4 a0_5 wA.heap.size wA.heap.size _ H _ vo3 vs3 a2 r w3 HT3.out hA3 HTab3.out HRr.out).mono ?_); rintro e w4 ⟨v4, rfl, hR4, hB4⟩; have HR4 := Aside0.mk hR4; have HB4 := Aside0.mk hB4; clear hR4 hB4))
      go_ret2
      exact ⟨_, rfl, Kd.R_lower HR4.out hBA.size, below_step HB03.out HB4.out⟩
    · rw [if_neg c2] at h
      exact absurd h (by simp)

end Go.Proofs.YtkmdkmlgahfcpaaDoor.M

namespace Go.Proofs.YtkmdkmlgahfcpaaDoor.M
open Go.RowKit Go.Proofs.YtkmdkmlgahfcpaaDoorW.PrintWords Go.Proofs.YtkmdkmlgahfcpaaDoorW.PrintLast Go.Proofs.YtkmdkmlgahfcpaaDoorW.PrintMore
attribute [local go_sem] max2_int min2_int max_two min_two max_three min_three max_four min_four   -- for this text's walks alone
set_option linter.unusedVariables false
set_option linter.unusedSimpArgs false

/-! ### spec_SameText: function 15 -/
def spec_SameText.f (l0 : List Int) (l1 : List Int) : Option (Bool) := some ((strOfNums l0).toList == (strOfNums l1).toList)
set_option maxHeartbeats 8000000 in
set_option maxRecDepth 100000 in
theorem spec_SameText.calls (A0 : Option Addr) (c0 : Nat) (l0 : List Int) (A1 : Option Addr) (c1 : Nat) (l1 : List Int) (r : Bool) (w : World) (hr0 : Kd.C (Kd.int .u8) w A0 l0.length l0) (hc0 : l0.length ≤ c0) (hr1 : Kd.C (Kd.int .u8) w A1 l1.length l1) (hc1 : l1.length ≤ c1) (h : spec_SameText.f l0 l1 = some r) :
    Calls Tryd.prog 15 #[.slice A0 l0.length c0, .slice A1 l1.length c1] w fun e w' => e = .returned (.bool r) ∧ Drawn0 w w' := by
  have HR0 := Aside0.mk hr0
  have HC0 := Aside0.mk hc0
  clear hr0 hc0
  have HR1 := Aside0.mk hr1
  have HC1 := Aside0.mk hc1
  clear hr1 hc1
  have H : (some ((strOfNums l0).toList == (strOfNums l1).toList)) = some r := h
  clear h
  obtain rfl := Option.some.inj H
  have hcv3 := Kd.C_string (P := Tryd.prog) (A := A0) (c := c0) Tryd.underlying27 Tryd.underlying5 Tryd.underlying9 HR0.out
  have hcv3b := fun m_ : Nat => Kd.C_string (P := Tryd.prog) (A := A0) (c := c0) Tryd.underlying27 Tryd.underlying5 Tryd.underlying9 (Kd.C_drewN HR0.out m_)
  have hcv4 := Kd.C_string (P := Tryd.prog) (A := A1) (c := c1) Tryd.underlying27 Tryd.underlying5 Tryd.underlying9 HR1.out
  have hcv4b := fun m_ : Nat => Kd.C_string (P := Tryd.prog) (A := A1) (c := c1) Tryd.underlying27 Tryd.underlying5 Tryd.underlying9 (Kd.C_drewN HR1.out m_)
  go_enter Tryd.func15, Tryd.ntmps15
  go_wp2
  go_ret
  exact ⟨by first | rfl | (simp; done) | (simp [*]; done), by repeat (first | exact Drawn0.refl _ | apply Drawn0.step)⟩

end Go.Proofs.YtkmdkmlgahfcpaaDoor.M

namespace Go.Proofs.YtkmdkmlgahfcpaaDoor.M
open Go.RowKit Go.Proofs.YtkmdkmlgahfcpaaDoorW.PrintWords Go.Proofs.YtkmdkmlgahfcpaaDoorW.PrintLast Go.Proofs.YtkmdkmlgahfcpaaDoorW.PrintMore
attribute [local go_sem] max2_int min2_int max_two min_two max_three min_three max_four min_four   -- for this text's walks alone
set_option linter.unusedVariables false
set_option linter.unusedSimpArgs false

/-! ### spec_Terms: function 16 -/
def spec_Terms.f (a0_0 : Int) (a0_1 : Int) (a0_2 : Int) (a0_3 : Int) (a0_4 : Int) (a0_5 : Int) : Option (Bool) := some (a0_0 != 1)
set_option maxHeartbeats 8000000 in
set_option maxRecDepth 100000 in
theorem spec_Terms.calls (a0_0 : Int) (a0_1 : Int) (a0_2 : Int) (a0_3 : Int) (a0_4 : Int) (a0_5 : Int) (r : Bool) (w : World) (h : spec_Terms.f a0_0 a0_1 a0_2 a0_3 a0_4 a0_5 = some r) :
    Calls Tryd.prog 16 #[.agg #[.int .i64 a0_0, .int .i64 a0_1, .int .i64 a0_2, .int .u64 a0_3, .int .u64 a0_4, .int .u64 a0_5]] w fun e w' => e = .returned (.bool r) ∧ Below w.heap.size w w' := by
  have hu24 := Tryd.underlying24
  have HB := Aside0.mk (Below.refl w.heap.size w)
  have H : (some (a0_0 != 1)) = some r := h
  clear h
  obtain rfl := Option.some.inj H
  go_enter Tryd.func16, Tryd.ntmps16
  go_wp2_with (first | ((with_reducible refine gate_dst (N := 1) rfl ?_); refine box_event ?hg (N := 1) ?hd (cs := #[.int .i64 a0_0, .int .i64 a0_1, .int .i64 a0_2, .int .u64 a0_3, .int .u64 a0_4, .int .u64 a0_5]) (t := 24) ?hr ?_; (case hd => rfl); (case hg => rfl); (case hr => first | (go_simp; done) | (go_simp; rfl)); intro gb204 hg w2 hbox hb; have n0_ := Aside0.mk (below_step (by repeat (first | (with_reducible first | exact HB.out | apply below_alloc | apply pw_below_drewN | apply below_drew1) | exact HB.out)) hb); have n1_ := Aside0.mk (hbox); have n2_ := Aside0.mk ((by rw [hg]; exact (below_size (by repeat (first | (with_reducible first | exact HB.out | apply below_alloc | apply pw_below_drewN | apply below_drew1) | exact HB.out))) : w.heap.size ≤ gb204)); have n3_ := Aside0.mk ((by rw [hg]; exact (below_size (by repeat (first | (with_reducible first | exact HB.out | apply below_alloc | apply pw_below_drewN | apply below_drew1) | exact HB.out))) : w.heap.size ≤ gb204)); clear HB; have HB := n0_; have BK204 := n1_; have GW204 := n2_; have GE204 := n3_; clear n0_ n1_ n2_ n3_; clear hb hbox hg; have hcz3_0 : w2.cell? ⟨gb204, 0, none⟩ = some (.int .i64 a0_0) := (blk_cell BK204.out 0).trans rfl; have hcz3_1 : w2.cell? ⟨gb204, 1, none⟩ = some (.int .i64 a0_1) := (blk_cell BK204.out 1).trans rfl; have hcz3_2 : w2.cell? ⟨gb204, 2, none⟩ = some (.int .i64 a0_2) := (blk_cell BK204.out 2).trans rfl; have hcz3_3 : w2.cell? ⟨gb204, 3, none⟩ = some (.int .u64 a0_3) := (blk_cell BK204.out 3).trans rfl; have hcz3_4 : w2.cell? ⟨gb204, 4, none⟩ = some (.int .u64 a0_4) := (blk_cell BK204.out 4).trans rfl; have hcz3_5 : w2.cell? ⟨gb204, 5, none⟩ = some (.int .u64 a0_5) := (blk_cell BK204.out 5).trans rfl; have hfz3_0 := blk_frozen BK204.out 0; have hfz3_1 := blk_frozen BK204.out 1; have hfz3_2 := blk_frozen BK204.out 2; have hfz3_3 := blk_frozen BK204.out 3; have hfz3_4 := blk_frozen BK204.out 4; have hfz3_5 := blk_frozen BK204.out 5))
  go_ret
  exact ⟨by first | rfl | (simp [errW_none, errW_some] <;> rfl) | (simp [*, errW_none, errW_some] <;> rfl), by repeat (first | (with_reducible first | exact HB.out | apply below_alloc | apply pw_below_drewN | apply below_drew1 | refine below_set ?_ GE204.out) | exact HB.out)⟩

end Go.Proofs.YtkmdkmlgahfcpaaDoor.M

namespace Go.Proofs.YtkmdkmlgahfcpaaDoor.M
open Go.RowKit Go.Proofs.YtkmdkmlgahfcpaaDoorW.PrintWords Go.Proofs.YtkmdkmlgahfcpaaDoorW.PrintLast Go.Proofs.YtkmdkmlgahfcpaaDoorW.PrintMore
attribute [local go_sem] max2_int min2_int max_two min_two max_three min_three max_four min_four   -- for this text's walks alone
set_option linter.unusedVariables false
set_option linter.unusedSimpArgs false

/-! ### spec_Same: function 17 -/
def spec_Same.l0 : Nat → List (List Int) → List (List Int) → Int → Int → Option (Bool)
  | 0, _, _, _, _ => none
  | k + 1, x0, x1, x12, x13 => if x13 < x12 then (if 0 ≤ x13 then (if x13 < (x0.length : Int) then (if x13 < (x1.length : Int) then (if (strOfNums (rd_L1 x0 x13)).toList = (strOfNums (rd_L1 x1 x13)).toList then (spec_Same.l0 k x0 x1 x12 (wrap64 (x13 + 1))) else (some false)) else (none)) else (none)) else (none)) else (some true)
def spec_Same.f (k : Nat) (l0 : List (List Int)) (l1 : List (List Int)) : Option (Bool) := if (l0.length : Int) = (l1.length : Int) then (spec_Same.l0 k l0 l1 (l0.length : Int) 0) else (some false)
theorem spec_Same.mono_l : ∀ k, (∀ y0 y1 y2 y3, LeO (spec_Same.l0 k y0 y1 y2 y3) (spec_Same.l0 (k + 1) y0 y1 y2 y3))
  | 0 => fun _ _ _ _ r h => by simp [spec_Same.l0] at h
  | k + 1 => by
    have ih0 := spec_Same.mono_l k
    · intro y0 y1 y2 y3
      unfold spec_Same.l0
      repeat' first
      | (with_reducible exact ih0 _ _ _ _)
      | (with_reducible exact LeO.refl _)
      | (with_reducible exact LeO.none _)
      | (with_reducible refine LeO.ite ?_ ?_)
      | (with_reducible refine LeO.bind ?_ (fun _ => ?_))
      | exact ih0 _ _ _ _
      | exact LeO.none _
      | refine LeO.ite ?_ ?_
      | refine LeO.bind ?_ (fun _ => ?_)
theorem spec_Same.mono : ∀ a0 a1 k, LeO (spec_Same.f k a0 a1) (spec_Same.f (k + 1) a0 a1) := by
  intro a0 a1 k
  have ih0 := spec_Same.mono_l k
  unfold spec_Same.f
  repeat' first
      | (with_reducible exact ih0 _ _ _ _)
      | (with_reducible exact LeO.refl _)
      | (with_reducible exact LeO.none _)
      | (with_reducible refine LeO.ite ?_ ?_)
      | (with_reducible refine LeO.bind ?_ (fun _ => ?_))
      | exact ih0 _ _ _ _
      | exact LeO.none _
      | refine LeO.ite ?_ ?_
      | refine LeO.bind ?_ (fun _ => ?_)
set_option maxHeartbeats 8000000 in
set_option maxRecDepth 100000 in
theorem spec_Same.calls (k : Nat) (A0 : Option Addr) (c0 : Nat) (l0 : List (List Int)) (A1 : Option Addr) (c1 : Nat) (l1 : List (List Int)) (r : Bool) (w : World) (hr0 : Kd.C (Kd.slice 5 (Kd.int .u8)) w A0 l0.length l0) (hc0 : l0.length ≤ c0) (hr1 : Kd.C (Kd.slice 5 (Kd.int .u8)) w A1 l1.length l1) (hc1 : l1.length ≤ c1) (h : spec_Same.f k l0 l1 = some r) :
    Calls Tryd.prog 17 #[.slice A0 l0.length c0, .slice A1 l1.length c1] w fun e w' => e = .returned (.bool r) ∧ Drawn0 w w' := by
  have HR0 := Aside0.mk hr0
  have HC0 := Aside0.mk hc0
  clear hr0 hc0
  have HR1 := Aside0.mk hr1
  have HC1 := Aside0.mk hc1
  clear hr1 hc1
  have H : (if (l0.length : Int) = (l1.length : Int) then (spec_Same.l0 k l0 l1 (l0.length : Int) 0) else (some false)) = some r := h
  clear h
  by_cases c3 : (l0.length : Int) = (l1.length : Int)
  · rw [if_pos c3] at H
    have c3b0 : ((l0.length : Int) == (l1.length : Int)) = true := beq_iff_eq.mpr c3
    have c3b1 : ((l0.length : Int) != (l1.length : Int)) = false := bne_eq_false_iff_eq.mpr c3
    have c3b2 : (l0.length == l1.length) = true := by first | simpa using c3 | (simp at c3 ⊢; omega)
    clear c3
    have H' := Aside0.mk H
    clear H
    go_enter Tryd.func17, Tryd.ntmps17
    go_wp2
    repeat (go_quiet (fail); try go_wp2)
    go_loopg [13] k (fun kq v13 w' => ∃ (x13_1 : Int), v13 = .int .i64 x13_1 ∧ Aside0 (spec_Same.l0 kq l0 l1 (l0.length : Int) x13_1 = some r) ∧ Aside0 (kq ≤ k) ∧ Drawn0 w w')
    case atStart => exact ⟨(0), (by first | rfl | (simp; done) | (simp [*]; done)), H', ⟨Nat.le_refl _⟩, by repeat (first | exact Drawn0.refl _ | apply Drawn0.step)⟩
    case round =>
      clear H'
      try clear c1
      try clear p2
      try clear c3
      try clear c3b0
      try clear c3b1
      try clear c3b2
      obtain ⟨x13_1, rfl, HA, HK1, ⟨m1, rfl⟩⟩ := hrel
      cases gk with
      | zero => exact absurd HA.out (by simp [spec_Same.l0])
      | succ k1 =>
        have H := HA.out
        clear HA
        simp only [spec_Same.l0] at H
        by_cases c4 : x13_1 < (l0.length : Int)
        · rw [if_pos c4] at H
          have c4b0 : decide (x13_1 < (l0.length : Int)) = true := decide_eq_true c4
          clear c4
          by_cases c5 : 0 ≤ x13_1
          · rw [if_pos c5] at H
            have c5b0 : decide (0 ≤ x13_1) = true := decide_eq_true c5
            clear c5
            by_cases c6 : x13_1 < (l0.length : Int)
            · rw [if_pos c6] at H
              have c6b0 : decide (x13_1 < (l0.length : Int)) = true := decide_eq_true c6
              clear c6
              by_cases c7 : x13_1 < (l1.length : Int)
              · rw [if_pos c7] at H
                have c7b0 : decide (x13_1 < (l1.length : Int)) = true := decide_eq_true c7
                clear c7
                by_cases c8 : (strOfNums (rd_L1 l0 x13_1)).toList = (strOfNums (rd_L1 l1 x13_1)).toList
                · rw [if_pos c8] at H
                  have c8b0 : ((strOfNums (rd_L1 l0 x13_1)).toList == (strOfNums (rd_L1 l1 x13_1)).toList) = true := beq_iff_eq.mpr c8
                  have c8b1 : ((strOfNums (rd_L1 l0 x13_1)).toList != (strOfNums (rd_L1 l1 x13_1)).toList) = false := bne_eq_false_iff_eq.mpr c8
                  clear c8
                  have H' := Aside0.mk H
                  clear H
                  have p205 : 0 ≤ (x13_1 : Int) := of_decide_eq_true (by first | (with_reducible assumption) | assumption)
                  have q205 : x13_1 < (l0.length : Int) := of_decide_eq_true (by first | (with_reducible assumption) | assumption)
                  obtain ⟨ad205, A205_0, c205_0, e205, hx205_0, hl205_0, hi205_0⟩ := at_L1 HR0.out x13_1 p205 q205
                  cases e205
                  have HR205_0 := Aside0.mk hi205_0
                  have HC205_0 := Aside0.mk hl205_0
                  clear hi205_0 hl205_0
                  replace p205 := eq_true p205
                  replace q205 := eq_true q205
                  have hcv9 := Kd.C_string (P := Tryd.prog) (A := A205_0) (c := c205_0) Tryd.underlying27 Tryd.underlying5 Tryd.underlying9 HR205_0.out
                  have hcv9b := fun m_ : Nat => Kd.C_string (P := Tryd.prog) (A := A205_0) (c := c205_0) Tryd.underlying27 Tryd.underlying5 Tryd.underlying9 (Kd.C_drewN HR205_0.out m_)
                  have p206 : 0 ≤ (x13_1 : Int) := of_decide_eq_true (by first | (with_reducible assumption) | assumption)
                  have q206 : x13_1 < (l1.length : Int) := of_decide_eq_true (by first | (with_reducible assumption) | assumption)
                  obtain ⟨ad206, A206_0, c206_0, e206, hx206_0, hl206_0, hi206_0⟩ := at_L1 HR1.out x13_1 p206 q206
                  cases e206
                  have HR206_0 := Aside0.mk hi206_0
                  have HC206_0 := Aside0.mk hl206_0
                  clear hi206_0 hl206_0
                  replace p206 := eq_true p206
                  replace q206 := eq_true q206
                  have hcv10 := Kd.C_string (P := Tryd.prog) (A := A206_0) (c := c206_0) Tryd.underlying27 Tryd.underlying5 Tryd.underlying9 HR206_0.out
                  have hcv10b := fun m_ : Nat => Kd.C_string (P := Tryd.prog) (A := A206_0) (c := c206_0) Tryd.underlying27 Tryd.underlying5 Tryd.underlying9 (Kd.C_drewN HR206_0.out m_)
                  go_wp2
                  repeat (go_quiet (fail); try go_wp2)
                  go_roundg k1
                  case measure => have := HK1.out; omega
                  case rel => exact ⟨(wrap64 (x13_1 + 1)), (by first | rfl | (simp; done) | (simp [*]; done)), H', ⟨by have := HK1.out; omega⟩, by repeat (first | exact Drawn0.refl _ | apply Drawn0.step)⟩
                · rw [if_neg c8] at H
                  have c8b0 : ((strOfNums (rd_L1 l0 x13_1)).toList == (strOfNums (rd_L1 l1 x13_1)).toList) = false := beq_eq_false_iff_ne.mpr c8
                  have c8b1 : ((strOfNums (rd_L1 l0 x13_1)).toList != (strOfNums (rd_L1 l1 x13_1)).toList) = true := bne_iff_ne.mpr c8
                  obtain rfl := Option.some.inj H
                  have p205 : 0 ≤ (x13_1 : Int) := of_decide_eq_true (by first | (with_reducible assumption) | assumption)
                  have q205 : x13_1 < (l0.length : Int) := of_decide_eq_true (by first | (with_reducible assumption) | assumption)
                  obtain ⟨ad205, A205_0, c205_0, e205, hx205_0, hl205_0, hi205_0⟩ := at_L1 HR0.out x13_1 p205 q205
                  cases e205
                  have HR205_0 := Aside0.mk hi205_0
                  have HC205_0 := Aside0.mk hl205_0
                  clear hi205_0 hl205_0
                  replace p205 := eq_true p205
                  replace q205 := eq_true q205
                  have hcv11 := Kd.C_string (P := Tryd.prog) (A := A205_0) (c := c205_0) Tryd.underlying27 Tryd.underlying5 Tryd.underlying9 HR205_0.out
                  have hcv11b := fun m_ : Nat => Kd.C_string (P := Tryd.prog) (A := A205_0) (c := c205_0) Tryd.underlying27 Tryd.underlying5 Tryd.underlying9 (Kd.C_drewN HR205_0.out m_)
                  have p206 : 0 ≤ (x13_1 : Int) := of_decide_eq_true (by first | (with_reducible assumption) | assumption)
                  have q206 : x13_1 < (l1.length : Int) := of_decide_eq_true (by first | (with_reducible assumption) | assumption)
                  obtain ⟨ad206, A206_0, c206_0, e206, hx206_0, hl206_0, hi206_0⟩ := at_L1 HR1.out x13_1 p206 q206
                  cases e206
                  have HR206_0 := Aside0.mk hi206_0
                  have HC206_0 := Aside0.mk hl206_0
                  clear hi206_0 hl206_0
                  replace p206 := eq_true p206
                  replace q206 := eq_true q206
                  have hcv12 := Kd.C_string (P := Tryd.prog) (A := A206_0) (c := c206_0) Tryd.underlying27 Tryd.underlying5 Tryd.underlying9 HR206_0.out
                  have hcv12b := fun m_ : Nat => Kd.C_string (P := Tryd.prog) (A := A206_0) (c := c206_0) Tryd.underlying27 Tryd.underlying5 Tryd.underlying9 (Kd.C_drewN HR206_0.out m_)
                  go_wp2
                  repeat (go_quiet (fail); try go_wp2)
                  go_ret
                  exact ⟨by first | rfl | (simp; done) | (simp [*]; done), by repeat (first | exact Drawn0.refl _ | apply Drawn0.step)⟩
              · rw [if_neg c7] at H
                exact absurd H (by simp)
            · rw [if_neg c6] at H
              exact absurd H (by simp)
          · rw [if_neg c5] at H
            exact absurd H (by simp)
        · rw [if_neg c4] at H
          have c4b0 : decide (x13_1 < (l0.length : Int)) = false := decide_eq_false c4
          clear c4
          obtain rfl := Option.some.inj H
          go_wp2
          repeat (go_quiet (fail); try go_wp2)
          go_ret
          exact ⟨by first | rfl | (simp; done) | (simp [*]; done), by repeat (first | exact Drawn0.refl _ | apply Drawn0.step)⟩
  · rw [if_neg c3] at H
    have c3b0 : ((l0.length : Int) == (l1.length : Int)) = false := beq_eq_false_iff_ne.mpr c3
    have c3b1 : ((l0.length : Int) != (l1.length : Int)) = true := bne_iff_ne.mpr c3
    have c3b2 : (l0.length == l1.length) = false := by first | simpa using c3 | (simp at c3 ⊢; omega)
    obtain rfl := Option.some.inj H
    go_enter Tryd.func17, Tryd.ntmps17
    go_wp2
    repeat (go_quiet (fail); try go_wp2)
    go_ret
    exact ⟨by first | rfl | (simp; done) | (simp [*]; done), by repeat (first | exact Drawn0.refl _ | apply Drawn0.step)⟩

end Go.Proofs.YtkmdkmlgahfcpaaDoor.M

