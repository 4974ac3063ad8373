-- Written by a program of ours (wip/xp) out of the translation; Lean checks it.
import Derived.Test.YtkmdkmlgahfcpaaDoorProg
import Derived.Below
import Derived.Deep.Draws
import Derived.Deep.AppendLies
import Derived.Maps.AppendAt
import Derived.OwnWalk
import Derived.Laws.BytesArg
import Derived.Laws.MakeOwn
import Derived.Laws.OwnMore
import Derived.Deep.OwnRows
import Derived.Tactics
import Derived.Lib.ConvBytes
import Derived.Laws.Slices
import Derived.WalkKit
import Derived.KernelRfl
import Derived.RowKit3
import Derived.Deep.LoopGhost
import Derived.Deep.QuietTactic
import Derived.BigQuiet
import Derived.WideLaws
import Derived.Deep.DeepCutAuto
import Derived.Deep.CutBlock
import Derived.Deep.RegionHeld3
import Derived.Laws.Rows
import Derived.Lib.AppendStr
import Derived.ArgAppend
import Derived.Laws.IdiomCopy
import Derived.OrdersHeld
import Derived.Laws.BitsLemmas
import Derived.RowKit
import Derived.Test.YtkmdkmlgahfcpaaDoorShelf
import Derived.Test.YtkmdkmlgahfcpaaDoorTab
import Derived.Test.YtkmdkmlgahfcpaaDoorOnes
import Derived.Test.YtkmdkmlgahfcpaaDoorInv3
import Derived.Test.YtkmdkmlgahfcpaaDoorErrV
import Derived.Handy
import Derived.Deep.DrawnRows
import Derived.StillTailTactics
import Derived.Laws.Bits64b
import Derived.Deep.RegionLaw
import Derived.Test.YtkmdkmlgahfcpaaDoorWWords
import Derived.Test.YtkmdkmlgahfcpaaDoorSq
import Derived.Test.YtkmdkmlgahfcpaaDoorWLast
import Derived.Test.YtkmdkmlgahfcpaaDoorWTab
import Derived.Test.YtkmdkmlgahfcpaaDoorWQPut
import Derived.Test.YtkmdkmlgahfcpaaDoorWApart
import Derived.Test.YtkmdkmlgahfcpaaDoorWArr
import Derived.Test.YtkmdkmlgahfcpaaDoorWZeros
import Derived.Test.YtkmdkmlgahfcpaaDoorWFoot
import Derived.Test.YtkmdkmlgahfcpaaDoorWKept
import Derived.Test.YtkmdkmlgahfcpaaDoorWShare
import Derived.Test.YtkmdkmlgahfcpaaDoorWN
import Derived.Test.YtkmdkmlgahfcpaaDoorWRepsOne
import Derived.Test.YtkmdkmlgahfcpaaDoorWInv
import Derived.Test.YtkmdkmlgahfcpaaDoorWGuard
import Derived.Test.YtkmdkmlgahfcpaaDoorWNEv
import Derived.Test.YtkmdkmlgahfcpaaDoorWMore
namespace Go.Proofs.YtkmdkmlgahfcpaaDoor.M
open Go.RowKit Go.Proofs.YtkmdkmlgahfcpaaDoorW.PrintWords Go.Proofs.YtkmdkmlgahfcpaaDoorW.PrintLast Go.Proofs.YtkmdkmlgahfcpaaDoorW.PrintMore
attribute [local go_sem] max2_int min2_int max_two min_two max_three min_three max_four min_four   -- for this text's walks alone
set_option linter.unusedVariables false
set_option linter.unusedSimpArgs false



def ptrOf : Value → Option Addr
 | .pointer p => p
 | _ => none
def errW (T : Int → TypeId) (X : Int → Value) : Option Int → Value
 | none => .nilIface
 | some c => .iface 178 (.pointer (ptrOf (X c)))
theorem errW_none (T : Int → TypeId) (X : Int → Value) : errW T X none = .nilIface := rfl
theorem errW_some (T : Int → TypeId) (X : Int → Value) (c : Int) : errW T X (some c) = .iface 178 (.pointer (ptrOf (X c))) := rfl

theorem info5 : (Tryd.prog.info? 5).map (fun i => (i.zero, i.size, i.bytes)) = some (some (.int .u8 0), 1, 1) := by kernel_rfl
theorem info27 : (Tryd.prog.info? 27).map (fun i => (i.zero, i.size, i.bytes)) = some (some (.slice none 0 0), 1, 24) := by kernel_rfl
theorem info57 : (Tryd.prog.info? 57).map (fun i => (i.zero, i.size, i.bytes)) = some (some (.agg #[(.int .u64 0), (.int .u64 0)]), 2, 16) := by kernel_rfl
theorem info106 : (Tryd.prog.info? 106).map (fun i => (i.zero, i.size, i.bytes)) = some (some (.agg #[(.int .u64 0), (.int .u64 0)]), 2, 16) := by kernel_rfl
-- the values' own types
def rd_L1 (xs : List (List Int)) (i : Int) : (List Int) := xs.getD i.toNat ([] : List Int)
theorem at_L1 {w : World} {A : Option Addr} {n : Nat} {xs : List (List Int)} (h : Kd.C (Kd.slice 5 (Kd.int .u8)) w A n xs) (i : Int) (h0 : 0 ≤ i) (h1 : i < n) : ∃ ad A0 c0, A = some ad ∧ w.cell? (ad.add i.toNat) = some (.slice A0 (rd_L1 xs i).length c0) ∧ (rd_L1 xs i).length ≤ c0 ∧ (Kd.int .u8).C w A0 (rd_L1 xs i).length (rd_L1 xs i) := by
 obtain ⟨ad, c, e, _, hK, hc0⟩ := Kd.C_get h ([] : List Int) i h0 h1
 have hc : ∀ j u, c[j]? = some u → w.cell? (ad.add (i.toNat * 1 + j)) = some u := hc0
 obtain ⟨A0, c0, rfl, l0, g0⟩ := hK
 exact ⟨ad, A0, c0, e, by have hq := hc 0 _ rfl; rwa [Nat.mul_one, Nat.add_zero] at hq, l0, g0⟩

def rd_L2 (xs : List (List (List Int))) (i : Int) : (List (List Int)) := xs.getD i.toNat ([] : List (List Int))
theorem at_L2 {w : World} {A : Option Addr} {n : Nat} {xs : List (List (List Int))} (h : Kd.C (Kd.slice 27 (Kd.slice 5 (Kd.int .u8))) w A n xs) (i : Int) (h0 : 0 ≤ i) (h1 : i < n) : ∃ ad A0 c0, A = some ad ∧ w.cell? (ad.add i.toNat) = some (.slice A0 (rd_L2 xs i).length c0) ∧ (rd_L2 xs i).length ≤ c0 ∧ (Kd.slice 5 (Kd.int .u8)).C w A0 (rd_L2 xs i).length (rd_L2 xs i) := by
 obtain ⟨ad, c, e, _, hK, hc0⟩ := Kd.C_get h ([] : List (List Int)) i h0 h1
 have hc : ∀ j u, c[j]? = some u → w.cell? (ad.add (i.toNat * 1 + j)) = some u := hc0
 obtain ⟨A0, c0, rfl, l0, g0⟩ := hK
 exact ⟨ad, A0, c0, e, by have hq := hc 0 _ rfl; rwa [Nat.mul_one, Nat.add_zero] at hq, l0, g0⟩

/-! #### struct type 106 -/
structure S106 where
 f0 : Int
 f1 : Int
def z106 : S106 := ⟨(0 : Int), (0 : Int)⟩
def k106 : Kd S106 := Kd.iso (Kd.pair (Kd.int .u64) (Kd.int .u64)) (fun x : S106 => (x.f0, x.f1))
theorem k106_heap : Kd.Heap k106 := Kd.heap_iso _ (Kd.heap_pair (Kd.heap_int .u64) (Kd.heap_int .u64))
theorem k106_open {w : World} {x : S106} {cs : List Value} (h : k106.K w x cs) : cs = [.int .u64 x.f0, .int .u64 x.f1] := by
 obtain ⟨_, _, rfl, rfl, rfl⟩ := h
 exact rfl
theorem k106_openM {w : World} {base : Nat} {ok : Nat → Prop} {x : S106} {cs : List Value} (h : k106.M w base ok x cs) : cs = [.int .u64 x.f0, .int .u64 x.f1] := by
 obtain ⟨_, _, rfl, rfl, rfl⟩ := h
 exact rfl
theorem k106_mk (w : World) (x : S106)  : k106.K w x [.int .u64 x.f0, .int .u64 x.f1] := ⟨[.int .u64 x.f0], [.int .u64 x.f1], rfl, rfl, rfl⟩
theorem k106_mkM (w : World) (base : Nat) (ok : Nat → Prop) (x : S106)  : k106.M w base ok x [.int .u64 x.f0, .int .u64 x.f1] := ⟨[.int .u64 x.f0], [.int .u64 x.f1], rfl, rfl, rfl⟩
theorem k106_mkF (W : World) (ok : Nat → Prop) (x : S106) : Kd.FK k106 W ok x [.int .u64 x.f0, .int .u64 x.f1] := fun W2 _ => k106_mk W2 x
def rd_T106 (xs : List S106) (i : Int) : S106 := xs.getD i.toNat z106
theorem at_T106 {w : World} {A : Option Addr} {n : Nat} {xs : List S106} (h : Kd.C k106 w A n xs) (i : Int) (h0 : 0 ≤ i) (h1 : i < n) : ∃ ad , A = some ad ∧ w.cell? (ad.add (i.toNat * 2)) = some (.int .u64 (rd_T106 xs i).f0) ∧ w.cell? ⟨(ad.add (i.toNat * 2)).block, (ad.add (i.toNat * 2)).off + 1, none⟩ = some (.int .u64 (rd_T106 xs i).f1) := by
 obtain ⟨ad, c, e, _, hK, hc0⟩ := Kd.C_get h z106 i h0 h1
 have hc : ∀ j u, c[j]? = some u → w.cell? (ad.add (i.toNat * 2 + j)) = some u := hc0
 obtain rfl := k106_open hK
 exact ⟨ad, e, hc 0 _ rfl, by rw [← add_field _ _ 1 (by omega)]; exact hc 1 _ rfl⟩

/-! #### struct type 57 -/
structure S57 where
 f0 : Int
 f1 : Int
def z57 : S57 := ⟨(0 : Int), (0 : Int)⟩
def k57 : Kd S57 := Kd.iso (Kd.pair (Kd.int .u64) (Kd.int .u64)) (fun x : S57 => (x.f0, x.f1))
theorem k57_heap : Kd.Heap k57 := Kd.heap_iso _ (Kd.heap_pair (Kd.heap_int .u64) (Kd.heap_int .u64))
theorem k57_open {w : World} {x : S57} {cs : List Value} (h : k57.K w x cs) : cs = [.int .u64 x.f0, .int .u64 x.f1] := by
 obtain ⟨_, _, rfl, rfl, rfl⟩ := h
 exact rfl
theorem k57_openM {w : World} {base : Nat} {ok : Nat → Prop} {x : S57} {cs : List Value} (h : k57.M w base ok x cs) : cs = [.int .u64 x.f0, .int .u64 x.f1] := by
 obtain ⟨_, _, rfl, rfl, rfl⟩ := h
 exact rfl
theorem k57_mk (w : World) (x : S57)  : k57.K w x [.int .u64 x.f0, .int .u64 x.f1] := ⟨[.int .u64 x.f0], [.int .u64 x.f1], rfl, rfl, rfl⟩
theorem k57_mkM (w : World) (base : Nat) (ok : Nat → Prop) (x : S57)  : k57.M w base ok x [.int .u64 x.f0, .int .u64 x.f1] := ⟨[.int .u64 x.f0], [.int .u64 x.f1], rfl, rfl, rfl⟩
theorem k57_mkF (W : World) (ok : Nat → Prop) (x : S57) : Kd.FK k57 W ok x [.int .u64 x.f0, .int .u64 x.f1] := fun W2 _ => k57_mk W2 x
def rd_T57 (xs : List S57) (i : Int) : S57 := xs.getD i.toNat z57
theorem at_T57 {w : World} {A : Option Addr} {n : Nat} {xs : List S57} (h : Kd.C k57 w A n xs) (i : Int) (h0 : 0 ≤ i) (h1 : i < n) : ∃ ad , A = some ad ∧ w.cell? (ad.add (i.toNat * 2)) = some (.int .u64 (rd_T57 xs i).f0) ∧ w.cell? ⟨(ad.add (i.toNat * 2)).block, (ad.add (i.toNat * 2)).off + 1, none⟩ = some (.int .u64 (rd_T57 xs i).f1) := by
 obtain ⟨ad, c, e, _, hK, hc0⟩ := Kd.C_get h z57 i h0 h1
 have hc : ∀ j u, c[j]? = some u → w.cell? (ad.add (i.toNat * 2 + j)) = some u := hc0
 obtain rfl := k57_open hK
 exact ⟨ad, e, hc 0 _ rfl, by rw [← add_field _ _ 1 (by omega)]; exact hc 1 _ rfl⟩


/-! ### errors_New: function 80 -/
def errors_New.f (a0 : ByteArray) : Option (Option Int) := some (some 0)
theorem errors_New.calls (a0 : ByteArray) (r : Option Int) (w : World) (h : errors_New.f a0 = some r) :
  Calls Tryd.prog 80 #[.string a0] w fun e w' => ∃ (T_ : Int → TypeId) (X_ : Int → Value), e = .returned (errW T_ X_ r) ∧ Below w.heap.size w w' := by
 injection h with h
 subst h
 go_enter Tryd.func80, Tryd.ntmps80
 go_wp2
 go_ret
 exact ⟨fun _ => 178, fun _ => .pointer (some ⟨w.heap.size, 0, none⟩), rfl, (Below.refl _ _).alloc (Nat.le_refl _) _⟩


/-! ### bits_Len64: function 109 -/
def bits_Len64.f (a0 : Int) : Option (Int) := if 0 ≤ a0 ∧ a0 ≤ 18446744073709551615 then some (Lib.bitLen a0.toNat : Int) else none
theorem bits_Len64.calls (a0 : Int) (r : Int) (w : World) (h : bits_Len64.f a0 = some r) :
  Calls Tryd.prog 109 #[.int .u64 a0] w fun e w' => e = .returned (.int .i64 r) ∧ Drawn0 w w' := by
 unfold bits_Len64.f at h
 split at h
 ·rename_i hc
  injection h with h
  subst h
  refine (Tryd.bits_Len64 a0 w hc.1 hc.2).mono ?_
  rintro e w' ⟨rfl, rfl⟩
  exact ⟨rfl, Drawn0.refl _⟩
 ·cases h


/-! ### proof_innerProofSize: function 111 -/
def proof_innerProofSize.f (a0 : Int) (a1 : Int) : Option (Int) := (bits_Len64.f (Go.bits .xor .u64 a0 (IntKind.u64.wrap (a1 - 1)))).bind fun t184 => (some t184)
set_option maxHeartbeats 8000000 in
set_option maxRecDepth 100000 in
theorem proof_innerProofSize.calls (a0 : Int) (a1 : Int) (r : Int) (w : World) (h : proof_innerProofSize.f a0 a1 = some r) :
  Calls Tryd.prog 111 #[.int .u64 a0, .int .u64 a1] w fun e w' => e = .returned (.int .i64 r) ∧ Drawn0 w w' := by
 have H : ((bits_Len64.f (Go.bits .xor .u64 a0 (IntKind.u64.wrap (a1 - 1)))).bind fun t184 => (some t184)) = some r := h
 clear h
 replace H := Option.bind_eq_some_iff.mp H
 obtain ⟨t184, A30, H⟩ := H
 replace H : (some t184) = some r := H
 have A3 := Aside0.mk A30
 clear A30
 obtain rfl := Option.some.inj H
 go_enter Tryd.func111, Tryd.ntmps111
 go_wp2_with (first | ((with_reducible refine gate_callee (f := 109) rfl ?_); refine goesL_ (some 9) rfl rfl Tryd.func109 (by kernel_rfl) rfl #[.int .u64 (Go.bits .xor .u64 a0 (IntKind.u64.wrap (a1 - 1)))] rfl aV ?_; (with_reducible refine (bits_Len64.calls (Go.bits .xor .u64 a0 (IntKind.u64.wrap (a1 - 1))) t184 _ A3.out).mono ?_); rintro e w' ⟨rfl, ⟨nd, rfl⟩⟩; refine ⟨_, rfl, ?_⟩))
 go_ret
 exact ⟨by first | rfl | (simp; done) | (simp [*]; done), by repeat (first | exact Drawn0.refl _ | apply Drawn0.step)⟩


/-! ### bits_OnesCount64: function 112 -/
theorem bits_OnesCount64.walk (x1 x2 x3 x4 x5 x6 r x : Int) (w : World)
  (e1 : IntKind.u64.wrap (Go.bits .and .u64 (x / 2) 6148914691236517205 + Go.bits .and .u64 x 6148914691236517205) = x1)
  (e2 : IntKind.u64.wrap (Go.bits .and .u64 (x1 / 4) 3689348814741910323 + Go.bits .and .u64 x1 3689348814741910323) = x2)
  (e3 : Go.bits .and .u64 (IntKind.u64.wrap (x2 / 16 + x2)) 1085102592571150095 = x3)
  (e4 : IntKind.u64.wrap (x3 + x3 / 256) = x4) (e5 : IntKind.u64.wrap (x4 + x4 / 65536) = x5) (e6 : IntKind.u64.wrap (x5 + x5 / 4294967296) = x6)
  (e7 : Go.bits .and .i64 (wrap64 x6) 127 = r) :
  Calls Tryd.prog 112 #[.int .u64 x] w fun e w' => e = .returned (.int .i64 r) ∧ w' = w := by
 go_enter Tryd.func112, Tryd.ntmps112
 go_wp2
 go_ret
 exact ⟨rfl, rfl⟩
def bits_OnesCount64.f (a0 : Int) : Option (Int) := if 0 ≤ a0 ∧ a0 ≤ 18446744073709551615 then some (Lib.onesCount a0.toNat : Int) else none
theorem bits_OnesCount64.calls (a0 : Int) (r : Int) (w : World) (h : bits_OnesCount64.f a0 = some r) :
  Calls Tryd.prog 112 #[.int .u64 a0] w fun e w' => e = .returned (.int .i64 r) ∧ Drawn0 w w' := by
 unfold bits_OnesCount64.f at h
 split at h
 ·rename_i hc
  injection h with h
  obtain ⟨x, rfl⟩ : ∃ x : Nat, a0 = (x : Int) := ⟨a0.toNat, by omega⟩
  rw [Int.toNat_natCast] at h
  refine (bits_OnesCount64.walk _ _ _ _ _ _ r x w rfl rfl rfl rfl rfl rfl (by rw [← h]; exact Ones.swar x (by omega))).mono ?_
  rintro e w' ⟨rfl, rfl⟩
  exact ⟨rfl, Drawn0.refl _⟩
 ·cases h


/-! ### proof_decompInclProof: function 82 -/
def proof_decompInclProof.f (a0 : Int) (a1 : Int) : Option (Int × Int) := (proof_innerProofSize.f a0 a1).bind fun t185 => (if 0 ≤ (IntKind.u64.wrap (t185)) then ((bits_OnesCount64.f (shr .u64 a0 (IntKind.u64.wrap (t185)))).bind fun t186 => (some (t185, t186))) else (none))
set_option maxHeartbeats 8000000 in
set_option maxRecDepth 100000 in
theorem proof_decompInclProof.calls (a0 : Int) (a1 : Int) (r1 : Int) (r2 : Int) (w : World) (h : proof_decompInclProof.f a0 a1 = some (r1, r2)) :
  Calls Tryd.prog 82 #[.int .u64 a0, .int .u64 a1] w fun e w' => e = .returned (.tuple #[.int .i64 r1, .int .i64 r2]) ∧ Drawn0 w w' := by
 have H : ((proof_innerProofSize.f a0 a1).bind fun t185 => (if 0 ≤ (IntKind.u64.wrap (t185)) then ((bits_OnesCount64.f (shr .u64 a0 (IntKind.u64.wrap (t185)))).bind fun t186 => (some (t185, t186))) else (none))) = some (r1, r2) := h
 clear h
 replace H := Option.bind_eq_some_iff.mp H
 obtain ⟨t185, A30, H⟩ := H
 replace H : (if 0 ≤ (IntKind.u64.wrap (t185)) then ((bits_OnesCount64.f (shr .u64 a0 (IntKind.u64.wrap (t185)))).bind fun t186 => (some (t185, t186))) else (none)) = some (r1, r2) := H
 have A3 := Aside0.mk A30
 clear A30
 obtain ⟨ji4, hji4⟩ : ∃ j_ : Int, (IntKind.u64.wrap (t185)) = j_ := ⟨_, rfl⟩
 replace H : (if 0 ≤ (ji4) then ((bits_OnesCount64.f (shr .u64 a0 (ji4))).bind fun t186 => (some (t185, t186))) else (none)) = some (r1, r2) := by first | (rw [hji4] at H; exact H) | (simp only [hji4] at H ⊢; exact H)
 (try rw [hji4] at A3)
 by_cases c5 : 0 ≤ (ji4)
 ·rw [if_pos c5] at H
  have c5b0 := eq_true c5
  have c5b1 : decide (0 ≤ (ji4)) = true := decide_eq_true c5
  clear c5
  obtain ⟨ji6, hji6⟩ : ∃ j_ : Int, (shr .u64 a0 (ji4)) = j_ := ⟨_, rfl⟩
  replace H : ((bits_OnesCount64.f (ji6)).bind fun t186 => (some (t185, t186))) = some (r1, r2) := by first | (rw [hji6] at H; exact H) | (simp only [hji6] at H ⊢; exact H)
  (try rw [hji6] at A3)
  have hji6_ : (a0 / 2 ^ min (ji4).toNat 64) = ji6 := hji6
  have hji6z : (ji4) ≤ 64 → (a0 / 2 ^ (ji4).toNat) = ji6 := shr_small hji6
  replace H := Option.bind_eq_some_iff.mp H
  obtain ⟨t186, A70, H⟩ := H
  replace H : (some (t185, t186)) = some (r1, r2) := H
  have A7 := Aside0.mk A70
  clear A70
  simp only [Option.some.injEq, Prod.mk.injEq] at H
  obtain ⟨rfl, rfl⟩ := H
  go_enter Tryd.func82, Tryd.ntmps82
  go_wp2_with (first | ((with_reducible refine gate_callee (f := 111) rfl ?_); refine goesL_ (some 10) rfl rfl Tryd.func111 (by kernel_rfl) rfl #[.int .u64 a0, .int .u64 a1] rfl aV ?_; (with_reducible refine (proof_innerProofSize.calls a0 a1 t185 _ A3.out).mono ?_); rintro e w' ⟨rfl, ⟨nd, rfl⟩⟩; refine ⟨_, rfl, ?_⟩) | ((with_reducible refine gate_callee (f := 112) rfl ?_); refine goesL_ (some 15) rfl rfl Tryd.func112 (by kernel_rfl) rfl #[.int .u64 ji6] rfl (by (try simp only [List.map_toArray, List.map_cons, List.map_nil]); first | done | (simp only [hji6]; rfl) | rfl | (simp only [List.length_drop, List.length_take]; rfl)) ?_; (with_reducible refine (bits_OnesCount64.calls ji6 t186 _ A7.out).mono ?_); rintro e w' ⟨rfl, ⟨nd, rfl⟩⟩; refine ⟨_, rfl, ?_⟩))
  go_ret2
  exact ⟨by first | rfl | (simp; done) | (simp only [← hji4, ← hji6] <;> (first | rfl | simp)) | (simp [*]; done), by repeat (first | exact Drawn0.refl _ | apply Drawn0.step)⟩
 ·rw [if_neg c5] at H
  exact absurd H (by simp)


/-! ### impl_word: function 89 -/
mutual
def impl_word.j0 : Nat → Int → Int → Bool → Option (List Int)
 | 0, _, _, _ => none
 | k + 1, x0, x1, x12 => if x12 = true then (impl_word.j1 k x0 8) else (impl_word.j1 k x0 x1)
def impl_word.j1 : Nat → Int → Int → Option (List Int)
 | 0, _, _ => none
 | k + 1, x0, x1 => if 0 ≤ x1 then (if (x1 : Int).toNat ≤ 281474976710656 then ((some (List.replicate (x1 : Int).toNat 0 : List Int)).bind fun y103 => (impl_word.l0 k x0 x1 y103 (y103.length : Int) 0)) else (none)) else (none)
def impl_word.l0 : Nat → Int → Int → List Int → Int → Int → Option (List Int)
 | 0, _, _, _, _, _ => none
 | k + 1, x0, x1, x5, x16, x17 => if x17 < x16 then (if 0 ≤ (wrap64 (8 * x17)) then (if 0 ≤ (wrap64 ((wrap64 (x1 - 1)) - x17)) then (if (wrap64 ((wrap64 (x1 - 1)) - x17)) < (x5.length : Int) then (impl_word.l0 k x0 x1 (x5.set ((wrap64 ((wrap64 (x1 - 1)) - x17)) : Int).toNat ((shr .u64 x0 (wrap64 (8 * x17))) % 256)) x16 (wrap64 (x17 + 1))) else (none)) else (none)) else (none)) else (some x5)
end
def impl_word.f (k : Nat) (a0 : Int) (a1 : Int) : Option (List Int) := if a1 < 1 then (impl_word.j0 k a0 a1 true) else (impl_word.j0 k a0 a1 (decide (a1 > 8)))
theorem impl_word.mono_l : ∀ k, (∀ y0 y1 y2, LeO (impl_word.j0 k y0 y1 y2) (impl_word.j0 (k + 1) y0 y1 y2)) ∧ (∀ y0 y1, LeO (impl_word.j1 k y0 y1) (impl_word.j1 (k + 1) y0 y1)) ∧ (∀ y0 y1 y2 y3 y4, LeO (impl_word.l0 k y0 y1 y2 y3 y4) (impl_word.l0 (k + 1) y0 y1 y2 y3 y4))
 | 0 => ⟨fun _ _ _ r h => by simp [impl_word.j0] at h, fun _ _ r h => by simp [impl_word.j1] at h, fun _ _ _ _ _ r h => by simp [impl_word.l0] at h⟩
 | k + 1 => by
  obtain ⟨ih0, ih1, ih2⟩ := impl_word.mono_l k
  refine ⟨?_, ?_, ?_⟩
  ·intro y0 y1 y2
   unfold impl_word.j0
   repeat' first
   | (with_reducible exact ih0 _ _ _)
   | (with_reducible exact ih1 _ _)
   | (with_reducible exact ih2 _ _ _ _ _)
   | (with_reducible exact LeO.refl _)
   | (with_reducible exact LeO.none _)
   | (with_reducible refine LeO.ite ?_ ?_)
   | (with_reducible refine LeO.bind ?_ (fun _ => ?_))
   | exact ih0 _ _ _
   | exact ih1 _ _
   | exact ih2 _ _ _ _ _
   | exact LeO.none _
   | refine LeO.ite ?_ ?_
   | refine LeO.bind ?_ (fun _ => ?_)
  ·intro y0 y1
   unfold impl_word.j1
   repeat' first
   | (with_reducible exact ih0 _ _ _)
   | (with_reducible exact ih1 _ _)
   | (with_reducible exact ih2 _ _ _ _ _)
   | (with_reducible exact LeO.refl _)
   | (with_reducible exact LeO.none _)
   | (with_reducible refine LeO.ite ?_ ?_)
   | (with_reducible refine LeO.bind ?_ (fun _ => ?_))
   | exact ih0 _ _ _
   | exact ih1 _ _
   | exact ih2 _ _ _ _ _
   | exact LeO.none _
   | refine LeO.ite ?_ ?_
   | refine LeO.bind ?_ (fun _ => ?_)
  ·intro y0 y1 y2 y3 y4
   unfold impl_word.l0
   repeat' first
   | (with_reducible exact ih0 _ _ _)
   | (with_reducible exact ih1 _ _)
   | (with_reducible exact ih2 _ _ _ _ _)
   | (with_reducible exact LeO.refl _)
   | (with_reducible exact LeO.none _)
   | (with_reducible refine LeO.ite ?_ ?_)
   | (with_reducible refine LeO.bind ?_ (fun _ => ?_))
   | exact ih0 _ _ _
   | exact ih1 _ _
   | exact ih2 _ _ _ _ _
   | exact LeO.none _
   | refine LeO.ite ?_ ?_
   | refine LeO.bind ?_ (fun _ => ?_)
theorem impl_word.mono : ∀ a0 a1 k, LeO (impl_word.f k a0 a1) (impl_word.f (k + 1) a0 a1) := by
 intro a0 a1 k
 obtain ⟨ih0, ih1, ih2⟩ := impl_word.mono_l k
 unfold impl_word.f
 repeat' first
   | (with_reducible exact ih0 _ _ _)
   | (with_reducible exact ih1 _ _)
   | (with_reducible exact ih2 _ _ _ _ _)
   | (with_reducible exact LeO.refl _)
   | (with_reducible exact LeO.none _)
   | (with_reducible refine LeO.ite ?_ ?_)
   | (with_reducible refine LeO.bind ?_ (fun _ => ?_))
   | exact ih0 _ _ _
   | exact ih1 _ _
   | exact ih2 _ _ _ _ _
   | exact LeO.none _
   | refine LeO.ite ?_ ?_
   | refine LeO.bind ?_ (fun _ => ?_)
set_option maxHeartbeats 8000000 in
set_option maxRecDepth 100000 in
theorem impl_word.calls (k : Nat) (a0 : Int) (a1 : Int) (r : List Int) (w : World) (h : impl_word.f k a0 a1 = some r) :
  Calls Tryd.prog 89 #[.int .u64 a0, .int .i64 a1] w fun e w' => ∃ v0_ : Value, e = .returned (v0_) ∧ Kd.R (Kd.int .u8) 5 w' w.heap.size (fun _ => True) v0_ r ∧ Below w.heap.size w w' := by
 have HB := Aside0.mk (Below.refl w.heap.size w)
 have H : (if a1 < 1 then (impl_word.j0 k a0 a1 true) else (impl_word.j0 k a0 a1 (decide (a1 > 8)))) = some r := h
 clear h
 have HC3 := Aside0.mk H
 clear H
 go_enter Tryd.func89, Tryd.ntmps89
 go_upto_region 1 with (fail)
 go_cut [12] (fun v12 wc => ∃ (kq : Nat) (x12_2 : Bool), v12 = .bool x12_2 ∧ Aside0 (impl_word.j0 kq a0 a1 x12_2 = some r) ∧ Aside0 (kq ≤ k) ∧ Aside0 (Below w.heap.size w wc))
 case first =>
  have H := HC3.out
  clear HC3
  by_cases c4 : a1 < 1
  ·rw [if_pos c4] at H
   have c4b0 : decide (a1 < 1) = true := decide_eq_true c4
   clear c4
   (first | rw [c4b0] | (simp only [i64_w, i32_w]; rw [c4b0]) | skip)
   have H' := Aside0.mk H
   clear H
   go_wp2
   go_meet
   case rel => exact ⟨_, (true), (by first | rfl | (simp; done) | (simp [*]; done)), H', ⟨by first | omega | exact Nat.le_refl _⟩, ⟨bB⟩⟩
  ·rw [if_neg c4] at H
   have c4b0 : decide (a1 < 1) = false := decide_eq_false c4
   clear c4
   (first | rw [c4b0] | (simp only [i64_w, i32_w]; rw [c4b0]) | skip)
   have H' := Aside0.mk H
   clear H
   go_wp2
   go_meet
   case rel => exact ⟨_, (decide (a1 > 8)), (by first | rfl | (simp; done) | (simp [*]; done)), H', ⟨by first | omega | exact Nat.le_refl _⟩, ⟨bB⟩⟩
 case rest =>
  clear HC3
  try clear p2
  try clear c4
  try clear c4b0
  obtain ⟨kq, x12_2, rfl, HA, HJ2, HB⟩ := hcut
  cases kq with
  | zero => exact absurd HA.out (by simp [impl_word.j0])
  | succ kj2 =>
   have H := HA.out
   clear HA
   simp only [impl_word.j0] at H
   have HC5 := Aside0.mk H
   clear H
   go_upto_if 12 with (fail)
   go_cut [1] (fun v1 wc => ∃ (kq : Nat) (x1_4 : Int), v1 = .int .i64 x1_4 ∧ Aside0 (impl_word.j1 kq a0 x1_4 = some r) ∧ Aside0 (kq ≤ kj2) ∧ Aside0 (Below w.heap.size w wc))
   case first =>
    have H := HC5.out
    clear HC5
    by_cases c6 : x12_2 = true
    ·subst c6
     have H1 : (impl_word.j1 kj2 a0 8) = some r := by rw [if_pos rfl] at H; exact H
     clear H
     have H := H1
     clear H1
     have H' := Aside0.mk H
     clear H
     go_wp2
     go_meet
     case rel => exact ⟨_, (8), (by first | rfl | (simp; done) | (simp [*]; done)), H', ⟨by have := HJ2.out; first | omega | exact Nat.le_refl _⟩, ⟨bB⟩⟩
    ·replace c6 := Bool.eq_false_iff.mpr c6
     subst c6
     have H1 : (impl_word.j1 kj2 a0 a1) = some r := by rw [if_neg (show ¬ (false = true) by decide)] at H; exact H
     clear H
     have H := H1
     clear H1
     have H' := Aside0.mk H
     clear H
     go_wp2
     go_meet
     case rel => exact ⟨_, (a1), (by first | rfl | (simp; done) | (simp [*]; done)), H', ⟨by have := HJ2.out; first | omega | exact Nat.le_refl _⟩, ⟨bB⟩⟩
   case rest =>
    clear HC5
    try clear p2
    try clear c4
    try clear c4b0
    try clear c6
    try clear p2
    obtain ⟨kq, x1_4, rfl, HA, HJ4, HB⟩ := hcut
    cases kq with
    | zero => exact absurd HA.out (by simp [impl_word.j1])
    | succ kj4 =>
     have H := HA.out
     clear HA
     simp only [impl_word.j1] at H
     by_cases c7 : 0 ≤ x1_4
     ·rw [if_pos c7] at H
      have c7b0 := eq_true c7
      have c7b1 : decide (0 ≤ x1_4) = true := decide_eq_true c7
      clear c7
      by_cases c8 : (x1_4 : Int).toNat ≤ 281474976710656
      ·rw [if_pos c8] at H
       have c8b0 := eq_true c8
       have c8b1 : decide ((x1_4 : Int).toNat ≤ 281474976710656) = true := decide_eq_true c8
       clear c8
       obtain ⟨y103, hy103⟩ : ∃ y_ : List Int, y_ = (List.replicate (x1_4 : Int).toNat 0) := ⟨_, rfl⟩
       replace H : (impl_word.l0 kj4 a0 x1_4 y103 (y103.length : Int) 0) = some r := by first | (rw [hy103]; with_reducible exact H) | (have H2_ := (Option.bind_some _ _).symm.trans H; rw [hy103]; with_reducible exact H2_) | (have H2_ := (Option.bind_some _ _).symm.trans H; with_reducible exact H2_) | with_reducible exact H | (rw [hy103]; exact H) | exact H
       have Ny103 := Aside0.mk hy103
       clear hy103
       have H' := Aside0.mk H
       clear H
       go_wp2_with (first | ((with_reducible refine gate_dst (N := 14) rfl ?_); refine Kd.R_make (Kd.int .u8) _ 5 rfl (N := 14) rfl 27 _ _ rfl x1_4 rfl rfl Tryd.underlying27 (.int .u8 0) 1 info5 rfl (by decide) (by omega) 0 (ok := fun _ => True) (okp := fun _ => True) rfl (fun _ hk => hk) trivial dA (Nat.le_trans (Nat.mul_le_mul_right _ (dA : x1_4.toNat ≤ 281474976710656)) (by omega)) (Below.refl _ _) (Nat.le_refl _) ?_; intro v104 w9 ho10 hb hg_ hnew_; clear hg_ hnew_; (first | rw [← Ny103.out] at ho10 | (simp only [Int.reduceToNat] at ho10; rw [← Ny103.out] at ho10)); have n0_ := Aside0.mk (Kd.R_lower ho10 (below_size bB)); have n1_ := Aside0.mk (below_step bB hb); clear HB; have HO105 := n0_; have HB := n1_; clear n0_ n1_; clear hb ho10; obtain ⟨Ao11, co11, eo11⟩ := Kd.R_slice HO105.out; subst eo11))
       go_loopg [17] kj4 (fun kq v17 w' => ∃ (x5_3 : List Int) (x17_3 : Int), v17 = .int .i64 x17_3 ∧ Aside0 (impl_word.l0 kq a0 x1_4 x5_3 (y103.length : Int) x17_3 = some r) ∧ Aside0 (kq ≤ kj4) ∧ Aside0 (Kd.R (Kd.int .u8) 5 w' w.heap.size (fun _ => True) (.slice Ao11 y103.length co11) x5_3) ∧ Aside0 (Below w.heap.size w w'))
       case atStart => exact ⟨(y103), (0), (by first | rfl | (simp; done) | (simp [*]; done)), H', ⟨Nat.le_refl _⟩, ⟨kR HO105.out⟩, ⟨bB⟩⟩
       case round =>
        clear H'
        try clear p2
        try clear c4
        try clear c4b0
        try clear c6
        try clear c7
        try clear c7b0
        try clear c7b1
        try clear c8
        try clear c8b0
        try clear c8b1
        try clear p2
        obtain ⟨x5_3, x17_3, rfl, HA, HK3, HO_5, HB⟩ := hrel
        have hl5_3 := (Kd.R_reads' HO_5.out).1
        rw [hl5_3] at HO_5
        (try simp only [hl5_3])
        cases gk with
        | zero => exact absurd HA.out (by simp [impl_word.l0])
        | succ k3 =>
         have H := HA.out
         clear HA
         simp only [impl_word.l0] at H
         by_cases c12 : x17_3 < (y103.length : Int)
         ·rw [if_pos c12] at H
          have c12b0 : decide (x17_3 < (y103.length : Int)) = true := decide_eq_true c12
          (try (have c12b0hl5_3 := c12b0; rw [hl5_3] at c12b0hl5_3))
          clear c12
          obtain ⟨ji13, hji13⟩ : ∃ j_ : Int, (wrap64 (8 * x17_3)) = j_ := ⟨_, rfl⟩
          replace H : (if 0 ≤ (ji13) then (if 0 ≤ (wrap64 ((wrap64 (x1_4 - 1)) - x17_3)) then (if (wrap64 ((wrap64 (x1_4 - 1)) - x17_3)) < (x5_3.length : Int) then (impl_word.l0 k3 a0 x1_4 (x5_3.set ((wrap64 ((wrap64 (x1_4 - 1)) - x17_3)) : Int).toNat ((shr .u64 a0 (ji13)) % 256)) (y103.length : Int) (wrap64 (x17_3 + 1))) else (none)) else (none)) else (none)) = some r := by first | (rw [hji13] at H; exact H) | (simp only [hji13] at H ⊢; exact H)
          have hji13w : (IntKind.i64.wrap (8 * x17_3)) = ji13 := (i64_w _).trans hji13
          by_cases c14 : 0 ≤ (ji13)
          ·rw [if_pos c14] at H
           have c14b0 := eq_true c14
           have c14b1 : decide (0 ≤ (ji13)) = true := decide_eq_true c14
           clear c14
           obtain ⟨ji15, hji15⟩ : ∃ j_ : Int, (shr .u64 a0 (ji13)) = j_ := ⟨_, rfl⟩
           replace H : (if 0 ≤ (wrap64 ((wrap64 (x1_4 - 1)) - x17_3)) then (if (wrap64 ((wrap64 (x1_4 - 1)) - x17_3)) < (x5_3.length : Int) then (impl_word.l0 k3 a0 x1_4 (x5_3.set ((wrap64 ((wrap64 (x1_4 - 1)) - x17_3)) : Int).toNat ((ji15) % 256)) (y103.length : Int) (wrap64 (x17_3 + 1))) else (none)) else (none)) = some r := by first | (rw [hji15] at H; exact H) | (simp only [hji15] at H ⊢; exact H)
           have hji15_ : (a0 / 2 ^ min (ji13).toNat 64) = ji15 := hji15
           have hji15z : (ji13) ≤ 64 → (a0 / 2 ^ (ji13).toNat) = ji15 := shr_small hji15
           obtain ⟨ji16, hji16⟩ : ∃ j_ : Int, (wrap64 ((wrap64 (x1_4 - 1)) - x17_3)) = j_ := ⟨_, rfl⟩
           replace H : (if 0 ≤ (ji16) then (if (ji16) < (x5_3.length : Int) then (impl_word.l0 k3 a0 x1_4 (x5_3.set ((ji16) : Int).toNat ((ji15) % 256)) (y103.length : Int) (wrap64 (x17_3 + 1))) else (none)) else (none)) = some r := by first | (rw [hji16] at H; exact H) | (simp only [hji16] at H ⊢; exact H)
           have hji16w : (IntKind.i64.wrap ((wrap64 (x1_4 - 1)) - x17_3)) = ji16 := (i64_w _).trans hji16
           by_cases c17 : 0 ≤ (ji16)
           ·rw [if_pos c17] at H
            have c17b0 : decide (0 ≤ (ji16)) = true := decide_eq_true c17
            clear c17
            by_cases c18 : (ji16) < (x5_3.length : Int)
            ·rw [if_pos c18] at H
             have c18b0 : decide ((ji16) < (x5_3.length : Int)) = true := decide_eq_true c18
             (try (have c18b0hl5_3 := c18b0; rw [hl5_3] at c18b0hl5_3))
             clear c18
             obtain ⟨y106, hy106⟩ : ∃ y_ : List Int, y_ = (x5_3.set ((ji16) : Int).toNat ((ji15) % 256)) := ⟨_, rfl⟩
             replace H : (impl_word.l0 k3 a0 x1_4 y106 (y103.length : Int) (wrap64 (x17_3 + 1))) = some r := by first | (rw [hy106]; with_reducible exact H) | (have H2_ := (Option.bind_some _ _).symm.trans H; rw [hy106]; with_reducible exact H2_) | (have H2_ := (Option.bind_some _ _).symm.trans H; with_reducible exact H2_) | with_reducible exact H | (rw [hy106]; exact H) | exact H
             have Ny106 := Aside0.mk hy106
             clear hy106
             have H' := Aside0.mk H
             clear H
             have p19 : 0 ≤ ((ji16) : Int) := dA
             have q19 : ((ji16) : Int) < ((x5_3.length : Int) : Int) := dA
             obtain ⟨go19, co19, eo19, gb19, gl19, cl19, HG19⟩ := Kd.R_form HO_5.out (by omega)
             (first | cases eo19 | (injection eo19 with ea_ en_ ec_; (first | subst ea_ | (injection ea_ with ea_; subst ea_)); subst ec_; clear en_))
             have GB19 := Aside0.mk gb19
             have GG19 := Aside0.mk HG19
             clear gb19 gl19 HG19
             obtain ⟨hx19_0, hf19_0⟩ := Kd.R_celln 0 HO_5.out ((ji16) : Int) p19 q19
             replace p19 := eq_true p19
             replace q19 := eq_true q19
             have HP20 := Kd.R_putg HO_5.out ((ji16) : Int) ((ji15) % 256)
             go_wp2_with (first | ((with_reducible refine gate_store (t := 5) (p := 30) rfl ?_); refine store_event (t := 5) (p := 30) (v := ?vo_w21) (w1 := (wr.setCell ⟨go19, ((ji16) : Int).toNat, none⟩ (.int .u8 ((ji15) % 256)))) ?hg ?ho ?hn ?hr ?_; (case ho => rfl); (case hg => rfl); (case hn => rfl); (case hr => first | (go_simp; done) | (go_simp; rfl)); intro w21 hw; have hg : wr.grownBy w21 (some go19) := (by rw [hw]; exact HP20.2); have hp_ : Kd.R (Kd.int .u8) 5 w21 w.heap.size (fun _ => True) (.slice (some ⟨go19, 0, none⟩) x5_3.length co11) y106 := (by rw [hw, Ny106.out]; exact HP20.1); clear HP20; have n0_ := Aside0.mk (hp_); have n1_ := Aside0.mk ((by rw [hw]; exact below_set (HB.out) GB19.out : Below w.heap.size w w21)); clear HO_5; clear HB; have HO_5 := n0_; have HB := n1_; clear n0_ n1_; clear hg hw hp_))
             (try simp only [← hl5_3])
             go_roundg k3
             case measure => have := HJ2.out; have := HJ4.out; have := HK3.out; omega
             case rel => exact ⟨(y106), (wrap64 (x17_3 + 1)), (by first | rfl | (simp; done) | (simp [*]; done)), H', ⟨by have := HJ2.out; have := HJ4.out; have := HK3.out; omega⟩, ⟨by (try simp only [hl5_3]); (with_reducible repeat (first | apply Kd.R_alloc | apply Kd.R_drewN | apply Kd.R_drew)); exact HO_5.out⟩, ⟨bB⟩⟩
            ·rw [if_neg c18] at H
             exact absurd H (by simp)
           ·rw [if_neg c17] at H
            exact absurd H (by simp)
          ·rw [if_neg c14] at H
           exact absurd H (by simp)
         ·rw [if_neg c12] at H
          have c12b0 : decide (x17_3 < (y103.length : Int)) = false := decide_eq_false c12
          (try (have c12b0hl5_3 := c12b0; rw [hl5_3] at c12b0hl5_3))
          clear c12
          obtain rfl := Option.some.inj H
          go_wp2
          go_ret
          exact ⟨_, by first | rfl | (simp [errW_none, errW_some] <;> rfl) | (simp [*, errW_none, errW_some] <;> rfl), by (with_reducible repeat (first | apply Kd.R_alloc | apply Kd.R_drewN | apply Kd.R_drew)); exact HO_5.out, bB⟩
      ·rw [if_neg c8] at H
       exact absurd H (by simp)
     ·rw [if_neg c7] at H
      exact absurd H (by simp)


/-! ### impl_mixed: function 90 -/
def impl_mixed.l0 : Nat → Int → List Int → Int → Int → Option (Int)
 | 0, _, _, _, _ => none
 | k + 1, x0, x7, x8, x9 => if x9 < x8 then (if 0 ≤ x9 then (if x9 < (x7.length : Int) then (impl_mixed.l0 k (IntKind.u64.wrap ((Go.bits .xor .u64 x0 (IntKind.u64.wrap (rd x7 x9))) * 1099511628211)) x7 x8 (wrap64 (x9 + 1))) else (none)) else (none)) else (some x0)
def impl_mixed.f (k : Nat) (a0 : Int) (l1 : List Int) : Option (Int) := impl_mixed.l0 k a0 l1 (l1.length : Int) 0
theorem impl_mixed.mono_l : ∀ k, (∀ y0 y1 y2 y3, LeO (impl_mixed.l0 k y0 y1 y2 y3) (impl_mixed.l0 (k + 1) y0 y1 y2 y3))
 | 0 => fun _ _ _ _ r h => by simp [impl_mixed.l0] at h
 | k + 1 => by
  have ih0 := impl_mixed.mono_l k
  ·intro y0 y1 y2 y3
   unfold impl_mixed.l0
   repeat' first
   | (with_reducible exact ih0 _ _ _ _)
   | (with_reducible exact LeO.refl _)
   | (with_reducible exact LeO.none _)
   | (with_reducible refine LeO.ite ?_ ?_)
   | (with_reducible refine LeO.bind ?_ (fun _ => ?_))
   | exact ih0 _ _ _ _
   | exact LeO.none _
   | refine LeO.ite ?_ ?_
   | refine LeO.bind ?_ (fun _ => ?_)
theorem impl_mixed.mono : ∀ a0 a1 k, LeO (impl_mixed.f k a0 a1) (impl_mixed.f (k + 1) a0 a1) := by
 intro a0 a1 k
 have ih0 := impl_mixed.mono_l k
 unfold impl_mixed.f
 repeat' first
   | (with_reducible exact ih0 _ _ _ _)
   | (with_reducible exact LeO.refl _)
   | (with_reducible exact LeO.none _)
   | (with_reducible refine LeO.ite ?_ ?_)
   | (with_reducible refine LeO.bind ?_ (fun _ => ?_))
   | exact ih0 _ _ _ _
   | exact LeO.none _
   | refine LeO.ite ?_ ?_
   | refine LeO.bind ?_ (fun _ => ?_)
set_option maxHeartbeats 8000000 in
set_option maxRecDepth 100000 in
theorem impl_mixed.calls (k : Nat) (a0 : Int) (A1 : Option Addr) (c1 : Nat) (l1 : List Int) (r : Int) (w : World) (hr1 : Kd.C (Kd.int .u8) w A1 l1.length l1) (hc1 : l1.length ≤ c1) (h : impl_mixed.f k a0 l1 = some r) :
  Calls Tryd.prog 90 #[.int .u64 a0, .slice A1 l1.length c1] w fun e w' => e = .returned (.int .u64 r) ∧ Drawn0 w w' := by
 have HR1 := Aside0.mk hr1
 have HC1 := Aside0.mk hc1
 clear hr1 hc1
 have H : (impl_mixed.l0 k a0 l1 (l1.length : Int) 0) = some r := h
 clear h
 have H' := Aside0.mk H
 clear H
 go_enter Tryd.func90, Tryd.ntmps90
 go_wp2
 go_loopg [0, 9] k (fun kq v0 v9 w' => ∃ (x0_1 : Int) (x9_1 : Int), v0 = .int .u64 x0_1 ∧ v9 = .int .i64 x9_1 ∧ Aside0 (impl_mixed.l0 kq x0_1 l1 (l1.length : Int) x9_1 = some r) ∧ Aside0 (kq ≤ k) ∧ Drawn0 w w')
 case atStart => exact ⟨(a0), (0), (by first | rfl | (simp; done) | (simp [*]; done)), (by first | rfl | (simp; done) | (simp [*]; done)), H', ⟨Nat.le_refl _⟩, by repeat (first | exact Drawn0.refl _ | apply Drawn0.step)⟩
 case round =>
  clear H'
  try clear c1
  try clear p2
  obtain ⟨x0_1, x9_1, rfl, rfl, HA, HK1, ⟨m1, rfl⟩⟩ := hrel
  cases gk with
  | zero => exact absurd HA.out (by simp [impl_mixed.l0])
  | succ k1 =>
   have H := HA.out
   clear HA
   simp only [impl_mixed.l0] at H
   by_cases c3 : x9_1 < (l1.length : Int)
   ·rw [if_pos c3] at H
    have c3b0 : decide (x9_1 < (l1.length : Int)) = true := decide_eq_true c3
    clear c3
    by_cases c4 : 0 ≤ x9_1
    ·rw [if_pos c4] at H
     have c4b0 : decide (0 ≤ x9_1) = true := decide_eq_true c4
     clear c4
     by_cases c5 : x9_1 < (l1.length : Int)
     ·rw [if_pos c5] at H
      have c5b0 : decide (x9_1 < (l1.length : Int)) = true := decide_eq_true c5
      clear c5
      have H' := Aside0.mk H
      clear H
      have p107 : 0 ≤ (x9_1 : Int) := dA
      have q107 : x9_1 < (l1.length : Int) := dA
      obtain ⟨ad107, e107, hx107_0⟩ := Kd.at_int HR1.out x9_1 p107 q107
      cases e107
      replace p107 := eq_true p107
      replace q107 := eq_true q107
      go_wp2
      go_roundg k1
      case measure => have := HK1.out; omega
      case rel => exact ⟨(IntKind.u64.wrap ((Go.bits .xor .u64 x0_1 (IntKind.u64.wrap (rd l1 x9_1))) * 1099511628211)), (wrap64 (x9_1 + 1)), (by first | rfl | (simp; done) | (simp [*]; done)), (by first | rfl | (simp; done) | (simp [*]; done)), H', ⟨by have := HK1.out; omega⟩, by repeat (first | exact Drawn0.refl _ | apply Drawn0.step)⟩
     ·rw [if_neg c5] at H
      exact absurd H (by simp)
    ·rw [if_neg c4] at H
     exact absurd H (by simp)
   ·rw [if_neg c3] at H
    have c3b0 : decide (x9_1 < (l1.length : Int)) = false := decide_eq_false c3
    clear c3
    obtain rfl := Option.some.inj H
    go_wp2
    go_ret
    exact ⟨by first | rfl | (simp; done) | (simp [*]; done), by repeat (first | exact Drawn0.refl _ | apply Drawn0.step)⟩

end Go.Proofs.YtkmdkmlgahfcpaaDoor.M

