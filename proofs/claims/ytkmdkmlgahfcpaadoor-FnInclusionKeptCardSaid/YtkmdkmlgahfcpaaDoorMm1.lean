import Derived.Test.YtkmdkmlgahfcpaaDoorSr
import Derived.Test.YtkmdkmlgahfcpaaDoorProg
import Derived.Below
import Derived.Deep.Draws
import Derived.Deep.AppendLies
import Derived.Maps.AppendAt
import Derived.OwnWalk
import Derived.Laws.BytesArg
import Derived.Laws.MakeOwn
import Derived.Laws.OwnMore
import Derived.Deep.OwnRows
import Derived.Tactics
import Derived.Lib.ConvBytes
import Derived.Laws.Slices
import Derived.WalkKit
import Derived.KernelRfl
import Derived.RowKit3
import Derived.Deep.LoopGhost
import Derived.Deep.QuietTactic
import Derived.BigQuiet
import Derived.WideLaws
import Derived.Deep.DeepCutAuto
import Derived.Deep.CutBlock
import Derived.Deep.RegionHeld3
import Derived.Laws.Rows
import Derived.Lib.AppendStr
import Derived.ArgAppend
import Derived.Laws.IdiomCopy
import Derived.OrdersHeld
import Derived.Laws.BitsLemmas
import Derived.RowKit
import Derived.Test.YtkmdkmlgahfcpaaDoorShelf
import Derived.Test.YtkmdkmlgahfcpaaDoorTab
import Derived.Test.YtkmdkmlgahfcpaaDoorOnes
import Derived.Test.YtkmdkmlgahfcpaaDoorInv3
import Derived.Test.YtkmdkmlgahfcpaaDoorErrV
import Derived.Handy
import Derived.Deep.DrawnRows
import Derived.StillTailTactics
import Derived.Laws.Bits64b
import Derived.Deep.RegionLaw
import Derived.Deep.CutRange
import Derived.LaidEql
import Derived.Test.YtkmdkmlgahfcpaaDoorRhX
import Derived.Test.YtkmdkmlgahfcpaaDoorMergeF
import Derived.Test.YtkmdkmlgahfcpaaDoorWWords
import Derived.Test.YtkmdkmlgahfcpaaDoorWLast
import Derived.Test.YtkmdkmlgahfcpaaDoorWTab
import Derived.Test.YtkmdkmlgahfcpaaDoorWApart
import Derived.Test.YtkmdkmlgahfcpaaDoorWArr
import Derived.Test.YtkmdkmlgahfcpaaDoorWFoot
import Derived.Test.YtkmdkmlgahfcpaaDoorWKept
import Derived.Test.YtkmdkmlgahfcpaaDoorWShare
import Derived.Test.YtkmdkmlgahfcpaaDoorWN
import Derived.Test.YtkmdkmlgahfcpaaDoorWEqStruct
import Derived.Test.YtkmdkmlgahfcpaaDoorWRepsOne
import Derived.Test.YtkmdkmlgahfcpaaDoorWGuard
import Derived.Test.YtkmdkmlgahfcpaaDoorWNEv
import Derived.Test.YtkmdkmlgahfcpaaDoorWMore
namespace Go.Proofs.YtkmdkmlgahfcpaaDoor.M
open Go.RowKit Go.Proofs.YtkmdkmlgahfcpaaDoorW.PrintWords Go.Proofs.YtkmdkmlgahfcpaaDoorW.PrintLast Go.Proofs.YtkmdkmlgahfcpaaDoorW.PrintMore
attribute [local go_sem] max2_int min2_int max_two min_two max_three min_three max_four min_four
set_option linter.unusedVariables false
set_option linter.unusedSimpArgs false
def ptrOf : Value → Option Addr
 | .pointer p => p
 | _ => none
def errW (T : Int → TypeId) (X : Int → Value) : Option Int → Value
 | none => .nilIface
 | some c => .iface 178 (.pointer (ptrOf (X c)))
theorem errW_none (T : Int → TypeId) (X : Int → Value) : errW T X none = .nilIface := rfl
theorem errW_some (T : Int → TypeId) (X : Int → Value) (c : Int) : errW T X (some c) = .iface 178 (.pointer (ptrOf (X c))) := rfl
theorem info5 : (Tryd.prog.info? 5).map (fun i => (i.zero, i.size, i.bytes)) = some (some (.int .u8 0), 1, 1) := by kernel_rfl
theorem info27 : (Tryd.prog.info? 27).map (fun i => (i.zero, i.size, i.bytes)) = some (some (.slice none 0 0), 1, 24) := by kernel_rfl
theorem info54 : (Tryd.prog.info? 54).map (fun i => (i.zero, i.size, i.bytes)) = some (some (.agg #[(.int .u64 0), (.int .u64 0)]), 2, 16) := by kernel_rfl
theorem info57 : (Tryd.prog.info? 57).map (fun i => (i.zero, i.size, i.bytes)) = some (some (.agg #[(.int .u64 0), (.int .u64 0)]), 2, 16) := by kernel_rfl
theorem info60 : (Tryd.prog.info? 60).map (fun i => (i.zero, i.size, i.bytes)) = some (some (.agg #[(.int .u64 0), (.int .u64 0), (.slice none 0 0)]), 3, 40) := by kernel_rfl
theorem info106 : (Tryd.prog.info? 106).map (fun i => (i.zero, i.size, i.bytes)) = some (some (.agg #[(.int .u64 0), (.int .u64 0)]), 2, 16) := by kernel_rfl
def rd_L1 (xs : List (List Int)) (i : Int) : (List Int) := xs.getD i.toNat ([] : List Int)
theorem at_L1 {w : World} {A : Option Addr} {n : Nat} {xs : List (List Int)} (h : Kd.C (Kd.slice 5 (Kd.int .u8)) w A n xs) (i : Int) (h0 : 0 ≤ i) (h1 : i < n) : ∃ ad A0 c0, A = some ad ∧ w.cell? (ad.add i.toNat) = some (.slice A0 (rd_L1 xs i).length c0) ∧ (rd_L1 xs i).length ≤ c0 ∧ (Kd.int .u8).C w A0 (rd_L1 xs i).length (rd_L1 xs i) := by
 obtain ⟨ad, c, e, _, hK, hc0⟩ := Kd.C_get h ([] : List Int) i h0 h1
 have hc : ∀ j u, c[j]? = some u → w.cell? (ad.add (i.toNat * 1 + j)) = some u := hc0
 obtain ⟨A0, c0, rfl, l0, g0⟩ := hK
 exact ⟨ad, A0, c0, e, by have hq := hc 0 _ rfl; rwa [Nat.mul_one, Nat.add_zero] at hq, l0, g0⟩
structure S54 where
 f0 : Int
 f1 : Int
def z54 : S54 := ⟨(0 : Int), (0 : Int)⟩
def k54 : Kd S54 := Kd.iso (Kd.pair (Kd.int .u64) (Kd.int .u64)) (fun x : S54 => (x.f0, x.f1))
theorem k54_open {w : World} {x : S54} {cs : List Value} (h : k54.K w x cs) : cs = [.int .u64 x.f0, .int .u64 x.f1] := by
 obtain ⟨_, _, rfl, rfl, rfl⟩ := h
 exact rfl
theorem k54_mk (w : World) (x : S54)  : k54.K w x [.int .u64 x.f0, .int .u64 x.f1] := ⟨[.int .u64 x.f0], [.int .u64 x.f1], rfl, rfl, rfl⟩
theorem k54_mkM (w : World) (base : Nat) (ok : Nat → Prop) (x : S54)  : k54.M w base ok x [.int .u64 x.f0, .int .u64 x.f1] := ⟨[.int .u64 x.f0], [.int .u64 x.f1], rfl, rfl, rfl⟩
def rd_T54 (xs : List S54) (i : Int) : S54 := xs.getD i.toNat z54
theorem at_T54 {w : World} {A : Option Addr} {n : Nat} {xs : List S54} (h : Kd.C k54 w A n xs) (i : Int) (h0 : 0 ≤ i) (h1 : i < n) : ∃ ad , A = some ad ∧ w.cell? (ad.add (i.toNat * 2)) = some (.int .u64 (rd_T54 xs i).f0) ∧ w.cell? ⟨(ad.add (i.toNat * 2)).block, (ad.add (i.toNat * 2)).off + 1, none⟩ = some (.int .u64 (rd_T54 xs i).f1) := by
 obtain ⟨ad, c, e, _, hK, hc0⟩ := Kd.C_get h z54 i h0 h1
 have hc : ∀ j u, c[j]? = some u → w.cell? (ad.add (i.toNat * 2 + j)) = some u := hc0
 obtain rfl := k54_open hK
 exact ⟨ad, e, hc 0 _ rfl, by rw [← add_field _ _ 1 (by omega)]; exact hc 1 _ rfl⟩
structure S39 where
 f0 : Int
 f1 : Int
 f2 : (List (List Int))
def z39 : S39 := ⟨(0 : Int), (0 : Int), ([] : List (List Int))⟩
def k39 : Kd S39 := Kd.iso (Kd.pair (Kd.int .u64) (Kd.pair (Kd.int .u64) (Kd.slice 27 (Kd.slice 5 (Kd.int .u8))))) (fun x : S39 => (x.f0, x.f1, x.f2))
theorem k39_heap : Kd.Heap k39 := Kd.heap_iso _ (Kd.heap_pair (Kd.heap_int .u64) (Kd.heap_pair (Kd.heap_int .u64) (Kd.heap_slice 27 (Kd.heap_slice 5 (Kd.heap_int .u8)))))
theorem k39_open {w : World} {x : S39} {cs : List Value} (h : k39.K w x cs) : ∃ A2 c2, cs = [.int .u64 x.f0, .int .u64 x.f1, .slice A2 x.f2.length c2] ∧ x.f2.length ≤ c2 ∧ (Kd.slice 5 (Kd.int .u8)).C w A2 x.f2.length x.f2 := by
 obtain ⟨_, _, rfl, rfl, ⟨_, _, rfl, rfl, ⟨A2, c2, rfl, l2, g2⟩⟩⟩ := h
 exact ⟨A2, c2, rfl, l2, g2⟩
theorem k39_mk (w : World) (x : S39) {A2 : Option Addr} {c2 : Nat} (l2 : x.f2.length ≤ c2) (g2 : (Kd.slice 5 (Kd.int .u8)).C w A2 x.f2.length x.f2) : k39.K w x [.int .u64 x.f0, .int .u64 x.f1, .slice A2 x.f2.length c2] := ⟨[.int .u64 x.f0], [.int .u64 x.f1, .slice A2 x.f2.length c2], rfl, rfl, ⟨[.int .u64 x.f1], [.slice A2 x.f2.length c2], rfl, rfl, ⟨A2, c2, rfl, l2, g2⟩⟩⟩
theorem k39_openF {W : World} {ok : Nat → Prop} {x : S39} {cs : List Value} (h : Kd.FK k39 W ok x cs) : ∃ A2 c2, cs = [.int .u64 x.f0, .int .u64 x.f1, .slice A2 x.f2.length c2] ∧ x.f2.length ≤ c2 ∧ Kd.F (Kd.slice 5 (Kd.int .u8)) W ok A2 x.f2.length x.f2 := by
 obtain ⟨A2, c2, rfl, l2, _⟩ := k39_open (Kd.FK_now h)
 exact ⟨A2, c2, rfl, l2, (fun W' hW => by obtain ⟨A2_, c2_, he, l2_, g2_⟩ := k39_open (h W' hW); injection (Option.some.inj (show some (Value.slice A2 x.f2.length c2) = some (Value.slice A2_ x.f2.length c2_) from congrArg (fun l => l[2]?) he)) with ha_ _ _; rw [ha_]; exact g2_)⟩
def rd_T39 (xs : List S39) (i : Int) : S39 := xs.getD i.toNat z39
theorem at_T39 {w : World} {A : Option Addr} {n : Nat} {xs : List S39} (h : Kd.C k39 w A n xs) (i : Int) (h0 : 0 ≤ i) (h1 : i < n) : ∃ ad A2 c2, A = some ad ∧ w.cell? (ad.add (i.toNat * 3)) = some (.int .u64 (rd_T39 xs i).f0) ∧ w.cell? ⟨(ad.add (i.toNat * 3)).block, (ad.add (i.toNat * 3)).off + 1, none⟩ = some (.int .u64 (rd_T39 xs i).f1) ∧ w.cell? ⟨(ad.add (i.toNat * 3)).block, (ad.add (i.toNat * 3)).off + 2, none⟩ = some (.slice A2 (rd_T39 xs i).f2.length c2) ∧ (rd_T39 xs i).f2.length ≤ c2 ∧ (Kd.slice 5 (Kd.int .u8)).C w A2 (rd_T39 xs i).f2.length (rd_T39 xs i).f2 := by
 obtain ⟨ad, c, e, _, hK, hc0⟩ := Kd.C_get h z39 i h0 h1
 have hc : ∀ j u, c[j]? = some u → w.cell? (ad.add (i.toNat * 3 + j)) = some u := hc0
 obtain ⟨A2, c2, rfl, l2, g2⟩ := k39_open hK
 exact ⟨ad, A2, c2, e, hc 0 _ rfl, by rw [← add_field _ _ 1 (by omega)]; exact hc 1 _ rfl, by rw [← add_field _ _ 2 (by omega)]; exact hc 2 _ rfl, l2, g2⟩
structure S57 where
 f0 : Int
 f1 : Int
def k57 : Kd S57 := Kd.iso (Kd.pair (Kd.int .u64) (Kd.int .u64)) (fun x : S57 => (x.f0, x.f1))
theorem k57_mkM (w : World) (base : Nat) (ok : Nat → Prop) (x : S57)  : k57.M w base ok x [.int .u64 x.f0, .int .u64 x.f1] := ⟨[.int .u64 x.f0], [.int .u64 x.f1], rfl, rfl, rfl⟩
structure S106 where
 f0 : Int
 f1 : Int
def z106 : S106 := ⟨(0 : Int), (0 : Int)⟩
def k106 : Kd S106 := Kd.iso (Kd.pair (Kd.int .u64) (Kd.int .u64)) (fun x : S106 => (x.f0, x.f1))
theorem k106_open {w : World} {x : S106} {cs : List Value} (h : k106.K w x cs) : cs = [.int .u64 x.f0, .int .u64 x.f1] := by
 obtain ⟨_, _, rfl, rfl, rfl⟩ := h
 exact rfl
theorem k106_openM {w : World} {base : Nat} {ok : Nat → Prop} {x : S106} {cs : List Value} (h : k106.M w base ok x cs) : cs = [.int .u64 x.f0, .int .u64 x.f1] := by
 obtain ⟨_, _, rfl, rfl, rfl⟩ := h
 exact rfl
theorem k106_mkM (w : World) (base : Nat) (ok : Nat → Prop) (x : S106)  : k106.M w base ok x [.int .u64 x.f0, .int .u64 x.f1] := ⟨[.int .u64 x.f0], [.int .u64 x.f1], rfl, rfl, rfl⟩
def rd_T106 (xs : List S106) (i : Int) : S106 := xs.getD i.toNat z106
theorem at_T106 {w : World} {A : Option Addr} {n : Nat} {xs : List S106} (h : Kd.C k106 w A n xs) (i : Int) (h0 : 0 ≤ i) (h1 : i < n) : ∃ ad , A = some ad ∧ w.cell? (ad.add (i.toNat * 2)) = some (.int .u64 (rd_T106 xs i).f0) ∧ w.cell? ⟨(ad.add (i.toNat * 2)).block, (ad.add (i.toNat * 2)).off + 1, none⟩ = some (.int .u64 (rd_T106 xs i).f1) := by
 obtain ⟨ad, c, e, _, hK, hc0⟩ := Kd.C_get h z106 i h0 h1
 have hc : ∀ j u, c[j]? = some u → w.cell? (ad.add (i.toNat * 2 + j)) = some u := hc0
 obtain rfl := k106_open hK
 exact ⟨ad, e, hc 0 _ rfl, by rw [← add_field _ _ 1 (by omega)]; exact hc 1 _ rfl⟩
structure S60 where
 f0 : S54
 f1 : (List Int)
def z60 : S60 := ⟨z54, ([] : List Int)⟩
def k60 : Kd S60 := Kd.iso (Kd.pair k54 (Kd.slice 5 (Kd.int .u8))) (fun x : S60 => (x.f0, x.f1))
theorem k60_open {w : World} {x : S60} {cs : List Value} (h : k60.K w x cs) : ∃ A2 c2, cs = [.int .u64 x.f0.f0, .int .u64 x.f0.f1, .slice A2 x.f1.length c2] ∧ x.f1.length ≤ c2 ∧ (Kd.int .u8).C w A2 x.f1.length x.f1 := by
 obtain ⟨_, _, rfl, s0, ⟨A2, c2, rfl, l2, g2⟩⟩ := h
 obtain rfl := k54_open s0
 exact ⟨A2, c2, rfl, l2, g2⟩
theorem k60_mk (w : World) (x : S60) {A2 : Option Addr} {c2 : Nat} (l2 : x.f1.length ≤ c2) (g2 : (Kd.int .u8).C w A2 x.f1.length x.f1) : k60.K w x [.int .u64 x.f0.f0, .int .u64 x.f0.f1, .slice A2 x.f1.length c2] := ⟨[.int .u64 x.f0.f0, .int .u64 x.f0.f1], [.slice A2 x.f1.length c2], rfl, (k54_mk w x.f0 ), ⟨A2, c2, rfl, l2, g2⟩⟩
theorem k60_mkM (w : World) (base : Nat) (ok : Nat → Prop) (x : S60) {v2 : Value} (g2 : (Kd.int .u8).R 5 w base ok v2 x.f1) : k60.M w base ok x [.int .u64 x.f0.f0, .int .u64 x.f0.f1, v2] := ⟨[.int .u64 x.f0.f0, .int .u64 x.f0.f1], [v2], rfl, (k54_mkM w base ok x.f0 ), ⟨v2, rfl, g2⟩⟩
theorem k60_openF {W : World} {ok : Nat → Prop} {x : S60} {cs : List Value} (h : Kd.FK k60 W ok x cs) : ∃ A2 c2, cs = [.int .u64 x.f0.f0, .int .u64 x.f0.f1, .slice A2 x.f1.length c2] ∧ x.f1.length ≤ c2 ∧ Kd.F (Kd.int .u8) W ok A2 x.f1.length x.f1 := by
 obtain ⟨A2, c2, rfl, l2, _⟩ := k60_open (Kd.FK_now h)
 exact ⟨A2, c2, rfl, l2, (fun W' hW => by obtain ⟨A2_, c2_, he, l2_, g2_⟩ := k60_open (h W' hW); injection (Option.some.inj (show some (Value.slice A2 x.f1.length c2) = some (Value.slice A2_ x.f1.length c2_) from congrArg (fun l => l[2]?) he)) with ha_ _ _; rw [ha_]; exact g2_)⟩
theorem k60_mkF (W : World) (ok : Nat → Prop) (x : S60) {A2 : Option Addr} {c2 : Nat} (l2 : x.f1.length ≤ c2) (g2 : Kd.F (Kd.int .u8) W ok A2 x.f1.length x.f1) : Kd.FK k60 W ok x [.int .u64 x.f0.f0, .int .u64 x.f0.f1, .slice A2 x.f1.length c2] := fun W2 hW => k60_mk W2 x l2 (g2 W2 hW)
def rd_T60 (xs : List S60) (i : Int) : S60 := xs.getD i.toNat z60
theorem at_T60 {w : World} {A : Option Addr} {n : Nat} {xs : List S60} (h : Kd.C k60 w A n xs) (i : Int) (h0 : 0 ≤ i) (h1 : i < n) : ∃ ad A2 c2, A = some ad ∧ w.cell? (ad.add (i.toNat * 3)) = some (.int .u64 (rd_T60 xs i).f0.f0) ∧ w.cell? ⟨(ad.add (i.toNat * 3)).block, (ad.add (i.toNat * 3)).off + 1, none⟩ = some (.int .u64 (rd_T60 xs i).f0.f1) ∧ w.cell? ⟨(ad.add (i.toNat * 3)).block, (ad.add (i.toNat * 3)).off + 2, none⟩ = some (.slice A2 (rd_T60 xs i).f1.length c2) ∧ (rd_T60 xs i).f1.length ≤ c2 ∧ (Kd.int .u8).C w A2 (rd_T60 xs i).f1.length (rd_T60 xs i).f1 := by
 obtain ⟨ad, c, e, _, hK, hc0⟩ := Kd.C_get h z60 i h0 h1
 have hc : ∀ j u, c[j]? = some u → w.cell? (ad.add (i.toNat * 3 + j)) = some u := hc0
 obtain ⟨A2, c2, rfl, l2, g2⟩ := k60_open hK
 exact ⟨ad, A2, c2, e, hc 0 _ rfl, by rw [← add_field _ _ 1 (by omega)]; exact hc 1 _ rfl, by rw [← add_field _ _ 2 (by omega)]; exact hc 2 _ rfl, l2, g2⟩
theorem eqA54 (d : Nat) (w : World) (x0 y0 : Int) (x1 y1 : Int) :
  (Op.equalIn (d + 2) 54 (.agg #[.int .u64 x0, .int .u64 x1]) (.agg #[.int .u64 y0, .int .u64 y1])).run Tryd.prog w = .ok (x0 == y0 && (x1 == y1)) w := by
 refine eqA_of Tryd.underlying54 (by kernel_rfl) ?_
 refine eqf_cons (by rfl) (by go_simp; rfl) (by go_simp; rfl) (by go_simp) ?_
 exact eqf_last (by rfl) (by go_simp; rfl) (by go_simp; rfl) (by go_simp)
def errors_New.f (a0 : ByteArray) : Option (Option Int) := some (some 0)
theorem errors_New.calls (a0 : ByteArray) (r : Option Int) (w : World) (h : errors_New.f a0 = some r) :
  Calls Tryd.prog 80 #[.string a0] w fun e w' => ∃ (T_ : Int → TypeId) (X_ : Int → Value), e = .returned (errW T_ X_ r) ∧ Below w.heap.size w w' := by
 injection h with h
 subst h
 go_enter Tryd.func80, Tryd.ntmps80
 go_wp2
 go_ret
 exact ⟨fun _ => 178, fun _ => .pointer (some ⟨w.heap.size, 0, none⟩), rfl, (Below.refl _ _).alloc (Nat.le_refl _) _⟩
theorem bits_OnesCount64.walk (x1 x2 x3 x4 x5 x6 r x : Int) (w : World)
  (e1 : IntKind.u64.wrap (Go.bits .and .u64 (x / 2) 6148914691236517205 + Go.bits .and .u64 x 6148914691236517205) = x1)
  (e2 : IntKind.u64.wrap (Go.bits .and .u64 (x1 / 4) 3689348814741910323 + Go.bits .and .u64 x1 3689348814741910323) = x2)
  (e3 : Go.bits .and .u64 (IntKind.u64.wrap (x2 / 16 + x2)) 1085102592571150095 = x3)
  (e4 : IntKind.u64.wrap (x3 + x3 / 256) = x4) (e5 : IntKind.u64.wrap (x4 + x4 / 65536) = x5) (e6 : IntKind.u64.wrap (x5 + x5 / 4294967296) = x6)
  (e7 : Go.bits .and .i64 (wrap64 x6) 127 = r) :
  Calls Tryd.prog 112 #[.int .u64 x] w fun e w' => e = .returned (.int .i64 r) ∧ w' = w := by
 go_enter Tryd.func112, Tryd.ntmps112
 go_wp2
 go_ret
 exact ⟨rfl, rfl⟩
def bits_OnesCount64.f (a0 : Int) : Option (Int) := if 0 ≤ a0 ∧ a0 ≤ 18446744073709551615 then some (Lib.onesCount a0.toNat : Int) else none
theorem bits_OnesCount64.calls (a0 : Int) (r : Int) (w : World) (h : bits_OnesCount64.f a0 = some r) :
  Calls Tryd.prog 112 #[.int .u64 a0] w fun e w' => e = .returned (.int .i64 r) ∧ Drawn0 w w' := by
 unfold bits_OnesCount64.f at h
 split at h
 ·rename_i hc
  injection h with h
  obtain ⟨x, rfl⟩ : ∃ x : Nat, a0 = (x : Int) := ⟨a0.toNat, by omega⟩
  rw [Int.toNat_natCast] at h
  refine (bits_OnesCount64.walk _ _ _ _ _ _ r x w rfl rfl rfl rfl rfl rfl (by rw [← h]; exact Ones.swar x (by omega))).mono ?_
  rintro e w' ⟨rfl, rfl⟩
  exact ⟨rfl, Drawn0.refl _⟩
 ·cases h
def bits_Len64.f (a0 : Int) : Option (Int) := if 0 ≤ a0 ∧ a0 ≤ 18446744073709551615 then some (Lib.bitLen a0.toNat : Int) else none
theorem bits_Len64.calls (a0 : Int) (r : Int) (w : World) (h : bits_Len64.f a0 = some r) :
  Calls Tryd.prog 109 #[.int .u64 a0] w fun e w' => e = .returned (.int .i64 r) ∧ Drawn0 w w' := by
 unfold bits_Len64.f at h
 split at h
 ·rename_i hc
  injection h with h
  subst h
  refine (Tryd.bits_Len64 a0 w hc.1 hc.2).mono ?_
  rintro e w' ⟨rfl, rfl⟩
  exact ⟨rfl, Drawn0.refl _⟩
 ·cases h
def proof_innerProofSize.f (a0 : Int) (a1 : Int) : Option (Int) := (bits_Len64.f (Go.bits .xor .u64 a0 (IntKind.u64.wrap (a1 - 1)))).bind fun t149 => (some t149)
set_option maxHeartbeats 8000000 in
set_option maxRecDepth 100000 in
theorem proof_innerProofSize.calls (a0 : Int) (a1 : Int) (r : Int) (w : World) (h : proof_innerProofSize.f a0 a1 = some r) :
  Calls Tryd.prog 111 #[.int .u64 a0, .int .u64 a1] w fun e w' => e = .returned (.int .i64 r) ∧ Drawn0 w w' := by
 have H : ((bits_Len64.f (Go.bits .xor .u64 a0 (IntKind.u64.wrap (a1 - 1)))).bind fun t149 => (some t149)) = some r := h
 clear h
 replace H := Option.bind_eq_some_iff.mp H
 obtain ⟨t149, A30, H⟩ := H
 (try dsimp only at H)
 have A3 := zM A30
 clear A30
 obtain rfl := Option.some.inj H
 go_enter Tryd.func111, Tryd.ntmps111
 go_wp2_with (first | ((with_reducible refine gate_callee (f := 109) rfl ?_); refine goesL_ (some 9) rfl rfl Tryd.func109 (by kernel_rfl) rfl #[.int .u64 (Go.bits .xor .u64 a0 (IntKind.u64.wrap (a1 - 1)))] rfl aV ?_; (with_reducible refine (bits_Len64.calls (Go.bits .xor .u64 a0 (IntKind.u64.wrap (a1 - 1))) t149 _ A3.out).mono ?_); rintro e w' ⟨rfl, ⟨nd, rfl⟩⟩; refine ⟨_, rfl, ?_⟩))
 go_ret
 exact ⟨by first | rfl | (simp; done) | (simp [*]; done), by repeat (first | exact Drawn0.refl _ | apply Drawn0.step)⟩
def proof_decompInclProof.f (a0 : Int) (a1 : Int) : Option (Int × Int) := (proof_innerProofSize.f a0 a1).bind fun t150 => (if 0 ≤ (IntKind.u64.wrap (t150)) then ((bits_OnesCount64.f (shr .u64 a0 (IntKind.u64.wrap (t150)))).bind fun t151 => (some (t150, t151))) else (none))
set_option maxHeartbeats 8000000 in
set_option maxRecDepth 100000 in
theorem proof_decompInclProof.calls (a0 : Int) (a1 : Int) (r1 : Int) (r2 : Int) (w : World) (h : proof_decompInclProof.f a0 a1 = some (r1, r2)) :
  Calls Tryd.prog 82 #[.int .u64 a0, .int .u64 a1] w fun e w' => e = .returned (.tuple #[.int .i64 r1, .int .i64 r2]) ∧ Drawn0 w w' := by
 have H : ((proof_innerProofSize.f a0 a1).bind fun t150 => (if 0 ≤ (IntKind.u64.wrap (t150)) then ((bits_OnesCount64.f (shr .u64 a0 (IntKind.u64.wrap (t150)))).bind fun t151 => (some (t150, t151))) else (none))) = some (r1, r2) := h
 clear h
 replace H := Option.bind_eq_some_iff.mp H
 obtain ⟨t150, A30, H⟩ := H
 (try dsimp only at H)
 have A3 := zM A30
 clear A30
 obtain ⟨ji4, hji4⟩ : ∃ j_ : Int, (IntKind.u64.wrap (t150)) = j_ := ⟨_, rfl⟩
 replace H : (if 0 ≤ (ji4) then ((bits_OnesCount64.f (shr .u64 a0 (ji4))).bind fun t151 => (some (t150, t151))) else (none)) = some (r1, r2) := by first | (rw [hji4] at H; exact H) | (simp only [hji4] at H ⊢; exact H)
 (try rw [hji4] at A3)
 by_cases c5 : 0 ≤ (ji4)
 ·rw [if_pos c5] at H
  have c5b0 := eq_true c5
  have c5b1 : decide (0 ≤ (ji4)) = true := decide_eq_true c5
  clear c5
  obtain ⟨ji6, hji6⟩ : ∃ j_ : Int, (shr .u64 a0 (ji4)) = j_ := ⟨_, rfl⟩
  replace H : ((bits_OnesCount64.f (ji6)).bind fun t151 => (some (t150, t151))) = some (r1, r2) := by first | (rw [hji6] at H; exact H) | (simp only [hji6] at H ⊢; exact H)
  (try rw [hji6] at A3)
  have hji6_ : (a0 / 2 ^ min (ji4).toNat 64) = ji6 := hji6
  have hji6z : (ji4) ≤ 64 → (a0 / 2 ^ (ji4).toNat) = ji6 := shr_small hji6
  replace H := Option.bind_eq_some_iff.mp H
  obtain ⟨t151, A70, H⟩ := H
  (try dsimp only at H)
  have A7 := zM A70
  clear A70
  simp only [Option.some.injEq, Prod.mk.injEq] at H
  obtain ⟨rfl, rfl⟩ := H
  go_enter Tryd.func82, Tryd.ntmps82
  go_wp2_with (first | ((with_reducible refine gate_callee (f := 111) rfl ?_); refine goesL_ (some 10) rfl rfl Tryd.func111 (by kernel_rfl) rfl #[.int .u64 a0, .int .u64 a1] rfl aV ?_; (with_reducible refine (proof_innerProofSize.calls a0 a1 t150 _ A3.out).mono ?_); rintro e w' ⟨rfl, ⟨nd, rfl⟩⟩; refine ⟨_, rfl, ?_⟩) | ((with_reducible refine gate_callee (f := 112) rfl ?_); refine goesL_ (some 15) rfl rfl Tryd.func112 (by kernel_rfl) rfl #[.int .u64 ji6] rfl (by (try simp only [List.map_toArray, List.map_cons, List.map_nil]); first | done | (simp only [hji6]; rfl) | rfl | (simp only [List.length_drop, List.length_take]; rfl)) ?_; (with_reducible refine (bits_OnesCount64.calls ji6 t151 _ A7.out).mono ?_); rintro e w' ⟨rfl, ⟨nd, rfl⟩⟩; refine ⟨_, rfl, ?_⟩))
  go_ret2
  exact ⟨by first | rfl | (simp; done) | (simp only [← hji4, ← hji6] <;> (first | rfl | simp)) | (simp [*]; done), by repeat (first | exact Drawn0.refl _ | apply Drawn0.step)⟩
 ·rw [if_neg c5] at H
  exact absurd H (by simp)
mutual
def impl_word.j0 : Nat → Int → Int → Bool → Option (List Int)
 | 0, _, _, _ => none
 | k + 1, x0, x1, x12 => if x12 = true then (impl_word.j1 k x0 8) else (impl_word.j1 k x0 x1)
def impl_word.j1 : Nat → Int → Int → Option (List Int)
 | 0, _, _ => none
 | k + 1, x0, x1 => if 0 ≤ x1 then (if (x1 : Int).toNat ≤ 281474976710656 then ((some (List.replicate (x1 : Int).toNat 0 : List Int)).bind fun y152 => (impl_word.l0 k x0 x1 y152 (y152.length : Int) 0)) else (none)) else (none)
def impl_word.l0 : Nat → Int → Int → List Int → Int → Int → Option (List Int)
 | 0, _, _, _, _, _ => none
 | k + 1, x0, x1, x5, x16, x17 => if x17 < x16 then (if 0 ≤ (wrap64 (8 * x17)) then (if 0 ≤ (wrap64 ((wrap64 (x1 - 1)) - x17)) then (if (wrap64 ((wrap64 (x1 - 1)) - x17)) < (x5.length : Int) then (impl_word.l0 k x0 x1 (x5.set ((wrap64 ((wrap64 (x1 - 1)) - x17)) : Int).toNat ((shr .u64 x0 (wrap64 (8 * x17))) % 256)) x16 (wrap64 (x17 + 1))) else (none)) else (none)) else (none)) else (some x5)
end
def impl_word.f (k : Nat) (a0 : Int) (a1 : Int) : Option (List Int) := if a1 < 1 then (impl_word.j0 k a0 a1 true) else (impl_word.j0 k a0 a1 (decide (a1 > 8)))
set_option maxHeartbeats 8000000 in
set_option maxRecDepth 100000 in
theorem impl_word.calls (k : Nat) (a0 : Int) (a1 : Int) (r : List Int) (w : World) (h : impl_word.f k a0 a1 = some r) :
  Calls Tryd.prog 89 #[.int .u64 a0, .int .i64 a1] w fun e w' => ∃ v0_ : Value, e = .returned (v0_) ∧ Kd.R (Kd.int .u8) 5 w' w.heap.size (fun _ => True) v0_ r ∧ Below w.heap.size w w' := by
 have HB := zM (Below.refl w.heap.size w)
 have H : (if a1 < 1 then (impl_word.j0 k a0 a1 true) else (impl_word.j0 k a0 a1 (decide (a1 > 8)))) = some r := h
 clear h
 have HC3 := zM H
 clear H
 go_enter Tryd.func89, Tryd.ntmps89
 go_upto_region 1 with (fail)
 go_cut [12] (fun v12 wc => ∃ (kq : Nat) (x12_2 : Bool), v12 = .bool x12_2 ∧ Aside0 (impl_word.j0 kq a0 a1 x12_2 = some r) ∧ Aside0 (kq ≤ k) ∧ Aside0 (Below w.heap.size w wc))
 case first =>
  have H := HC3.out
  clear HC3
  by_cases c4 : a1 < 1
  ·rw [if_pos c4] at H
   have c4b0 : decide (a1 < 1) = true := decide_eq_true c4
   clear c4
   (first | rw [c4b0] | (simp only [i64_w, i32_w]; rw [c4b0]) | skip)
   have H' := zM H
   clear H
   go_wp2
   go_meet
   case rel => exact ⟨_, (true), sR, H', ⟨by first | omega | exact Nat.le_refl _⟩, ⟨bB⟩⟩
  ·rw [if_neg c4] at H
   have c4b0 : decide (a1 < 1) = false := decide_eq_false c4
   clear c4
   (first | rw [c4b0] | (simp only [i64_w, i32_w]; rw [c4b0]) | skip)
   have H' := zM H
   clear H
   go_wp2
   go_meet
   case rel => exact ⟨_, (decide (a1 > 8)), sR, H', ⟨by first | omega | exact Nat.le_refl _⟩, ⟨bB⟩⟩
 case rest =>
  clear HC3
  try clear p2
  try clear c4
  try clear c4b0
  obtain ⟨kq, x12_2, rfl, HA, HJ2, HB⟩ := hcut
  cases kq with
  | zero => exact absurd HA.out (by simp [impl_word.j0])
  | succ kj2 =>
   have H := HA.out
   clear HA
   simp only [impl_word.j0] at H
   have HC5 := zM H
   clear H
   go_upto_if 12 with (fail)
   go_cut [1] (fun v1 wc => ∃ (kq : Nat) (x1_4 : Int), v1 = .int .i64 x1_4 ∧ Aside0 (impl_word.j1 kq a0 x1_4 = some r) ∧ Aside0 (kq ≤ kj2) ∧ Aside0 (Below w.heap.size w wc))
   case first =>
    have H := HC5.out
    clear HC5
    by_cases c6 : x12_2 = true
    ·subst c6
     have H1 : (impl_word.j1 kj2 a0 8) = some r := by rw [if_pos rfl] at H; exact H
     clear H
     have H := H1
     clear H1
     have H' := zM H
     clear H
     go_wp2
     go_meet
     case rel => exact ⟨_, (8), sR, H', ⟨by have := HJ2.out; first | omega | exact Nat.le_refl _⟩, ⟨bB⟩⟩
    ·replace c6 := Bool.eq_false_iff.mpr c6
     subst c6
     have H1 : (impl_word.j1 kj2 a0 a1) = some r := by rw [if_neg (show ¬ (false = true) by decide)] at H; exact H
     clear H
     have H := H1
     clear H1
     have H' := zM H
     clear H
     go_wp2
     go_meet
     case rel => exact ⟨_, (a1), sR, H', ⟨by have := HJ2.out; first | omega | exact Nat.le_refl _⟩, ⟨bB⟩⟩
   case rest =>
    clear HC5
    try clear p2
    try clear c4
    try clear c4b0
    try clear c6
    try clear p2
    obtain ⟨kq, x1_4, rfl, HA, HJ4, HB⟩ := hcut
    cases kq with
    | zero => exact absurd HA.out (by simp [impl_word.j1])
    | succ kj4 =>
     have H := HA.out
     clear HA
     simp only [impl_word.j1] at H
     by_cases c7 : 0 ≤ x1_4
     ·rw [if_pos c7] at H
      have c7b0 := eq_true c7
      have c7b1 : decide (0 ≤ x1_4) = true := decide_eq_true c7
      clear c7
      by_cases c8 : (x1_4 : Int).toNat ≤ 281474976710656
      ·rw [if_pos c8] at H
       have c8b0 := eq_true c8
       have c8b1 : decide ((x1_4 : Int).toNat ≤ 281474976710656) = true := decide_eq_true c8
       clear c8
       obtain ⟨y152, hy152⟩ : ∃ y_ : List Int, y_ = (List.replicate (x1_4 : Int).toNat 0) := ⟨_, rfl⟩
       replace H : (impl_word.l0 kj4 a0 x1_4 y152 (y152.length : Int) 0) = some r := by first | (rw [hy152]; with_reducible exact H) | (have H := (Option.bind_some _ _).symm.trans H; first | (rw [hy152]; with_reducible exact H) | with_reducible exact H) | (rw [hy152]; exact H) | exact H
       have Ny152 := zM hy152
       clear hy152
       have H' := zM H
       clear H
       go_wp2_with (first | ((with_reducible refine gate_dst (N := 14) rfl ?_); refine Kd.R_make (Kd.int .u8) _ 5 rfl (N := 14) rfl 27 _ _ rfl x1_4 rfl rfl Tryd.underlying27 (.int .u8 0) 1 info5 rfl (by decide) (by omega) 0 (ok := fun _ => True) (okp := fun _ => True) rfl (fun _ hk => hk) trivial dA (Nat.le_trans (Nat.mul_le_mul_right _ (dA : x1_4.toNat ≤ 281474976710656)) (by omega)) (Below.refl _ _) (Nat.le_refl _) ?_; intro v153 w9 ho10 hb hg_ hnew_; clear hg_ hnew_; (first | rw [← Ny152.out] at ho10 | (simp only [Int.reduceToNat] at ho10; rw [← Ny152.out] at ho10)); have HO154 := zM (Kd.R_lower ho10 (below_size bB)); replace HB := zM (below_step bB hb); clear hb ho10; obtain ⟨Ao11, co11, eo11⟩ := Kd.R_slice HO154.out; subst eo11))
       go_loopg [17] kj4 (fun kq v17 w' => ∃ (x5_3 : List Int) (x17_3 : Int), v17 = .int .i64 x17_3 ∧ Aside0 (impl_word.l0 kq a0 x1_4 x5_3 (y152.length : Int) x17_3 = some r) ∧ Aside0 (kq ≤ kj4) ∧ Aside0 (Kd.R (Kd.int .u8) 5 w' w.heap.size (fun _ => True) (.slice Ao11 y152.length co11) x5_3) ∧ Aside0 (Below w.heap.size w w'))
       case atStart => exact ⟨(y152), (0), sR, H', ⟨Nat.le_refl _⟩, ⟨kR HO154.out⟩, ⟨bB⟩⟩
       case round =>
        clear H'
        try clear p2
        try clear c4
        try clear c4b0
        try clear c6
        try clear c7
        try clear c7b0
        try clear c7b1
        try clear c8
        try clear c8b0
        try clear c8b1
        try clear p2
        obtain ⟨x5_3, x17_3, rfl, HA, HK3, HO_5, HB⟩ := hrel
        have hl5_3 := (Kd.R_reads' HO_5.out).1
        rw [hl5_3] at HO_5
        (try simp only [hl5_3])
        cases gk with
        | zero => exact absurd HA.out (by simp [impl_word.l0])
        | succ k3 =>
         have H := HA.out
         clear HA
         simp only [impl_word.l0] at H
         by_cases c12 : x17_3 < (y152.length : Int)
         ·rw [if_pos c12] at H
          have c12b0 : decide (x17_3 < (y152.length : Int)) = true := decide_eq_true c12
          (try (have c12b0hl5_3 := c12b0; rw [hl5_3] at c12b0hl5_3))
          clear c12
          obtain ⟨ji13, hji13⟩ : ∃ j_ : Int, (wrap64 (8 * x17_3)) = j_ := ⟨_, rfl⟩
          replace H : (if 0 ≤ (ji13) then (if 0 ≤ (wrap64 ((wrap64 (x1_4 - 1)) - x17_3)) then (if (wrap64 ((wrap64 (x1_4 - 1)) - x17_3)) < (x5_3.length : Int) then (impl_word.l0 k3 a0 x1_4 (x5_3.set ((wrap64 ((wrap64 (x1_4 - 1)) - x17_3)) : Int).toNat ((shr .u64 a0 (ji13)) % 256)) (y152.length : Int) (wrap64 (x17_3 + 1))) else (none)) else (none)) else (none)) = some r := by first | (rw [hji13] at H; exact H) | (simp only [hji13] at H ⊢; exact H)
          have hji13w : (IntKind.i64.wrap (8 * x17_3)) = ji13 := (i64_w _).trans hji13
          by_cases c14 : 0 ≤ (ji13)
          ·rw [if_pos c14] at H
           have c14b0 := eq_true c14
           have c14b1 : decide (0 ≤ (ji13)) = true := decide_eq_true c14
           clear c14
           obtain ⟨ji15, hji15⟩ : ∃ j_ : Int, (shr .u64 a0 (ji13)) = j_ := ⟨_, rfl⟩
           replace H : (if 0 ≤ (wrap64 ((wrap64 (x1_4 - 1)) - x17_3)) then (if (wrap64 ((wrap64 (x1_4 - 1)) - x17_3)) < (x5_3.length : Int) then (impl_word.l0 k3 a0 x1_4 (x5_3.set ((wrap64 ((wrap64 (x1_4 - 1)) - x17_3)) : Int).toNat ((ji15) % 256)) (y152.length : Int) (wrap64 (x17_3 + 1))) else (none)) else (none)) = some r := by first | (rw [hji15] at H; exact H) | (simp only [hji15] at H ⊢; exact H)
           have hji15_ : (a0 / 2 ^ min (ji13).toNat 64) = ji15 := hji15
           have hji15z : (ji13) ≤ 64 → (a0 / 2 ^ (ji13).toNat) = ji15 := shr_small hji15
           obtain ⟨ji16, hji16⟩ : ∃ j_ : Int, (wrap64 ((wrap64 (x1_4 - 1)) - x17_3)) = j_ := ⟨_, rfl⟩
           replace H : (if 0 ≤ (ji16) then (if (ji16) < (x5_3.length : Int) then (impl_word.l0 k3 a0 x1_4 (x5_3.set ((ji16) : Int).toNat ((ji15) % 256)) (y152.length : Int) (wrap64 (x17_3 + 1))) else (none)) else (none)) = some r := by first | (rw [hji16] at H; exact H) | (simp only [hji16] at H ⊢; exact H)
           have hji16w : (IntKind.i64.wrap ((wrap64 (x1_4 - 1)) - x17_3)) = ji16 := (i64_w _).trans hji16
           by_cases c17 : 0 ≤ (ji16)
           ·rw [if_pos c17] at H
            have c17b0 : decide (0 ≤ (ji16)) = true := decide_eq_true c17
            clear c17
            by_cases c18 : (ji16) < (x5_3.length : Int)
            ·rw [if_pos c18] at H
             have c18b0 : decide ((ji16) < (x5_3.length : Int)) = true := decide_eq_true c18
             (try (have c18b0hl5_3 := c18b0; rw [hl5_3] at c18b0hl5_3))
             clear c18
             obtain ⟨y155, hy155⟩ : ∃ y_ : List Int, y_ = (x5_3.set ((ji16) : Int).toNat ((ji15) % 256)) := ⟨_, rfl⟩
             replace H : (impl_word.l0 k3 a0 x1_4 y155 (y152.length : Int) (wrap64 (x17_3 + 1))) = some r := by first | (rw [hy155]; with_reducible exact H) | (have H := (Option.bind_some _ _).symm.trans H; first | (rw [hy155]; with_reducible exact H) | with_reducible exact H) | (rw [hy155]; exact H) | exact H
             have Ny155 := zM hy155
             clear hy155
             have H' := zM H
             clear H
             have p19 : 0 ≤ ((ji16) : Int) := dA
             have q19 : ((ji16) : Int) < ((x5_3.length : Int) : Int) := dA
             obtain ⟨go19, co19, eo19, gb19, gl19, cl19, HG19⟩ := Kd.R_form HO_5.out (by omega)
             (first | cases eo19 | (injection eo19 with ea_ en_ ec_; (first | subst ea_ | (injection ea_ with ea_; subst ea_)); subst ec_; clear en_))
             have GB19 := zM gb19
             have GG19 := zM HG19
             clear gb19 gl19 HG19
             obtain ⟨hx19_0, hf19_0⟩ := Kd.R_celln 0 HO_5.out ((ji16) : Int) p19 q19
             replace p19 := eq_true p19
             replace q19 := eq_true q19
             have HP20 := Kd.R_putg HO_5.out ((ji16) : Int) ((ji15) % 256)
             go_wp2_with (first | ((with_reducible refine gate_store (t := 5) (p := 30) rfl ?_); refine store_event (t := 5) (p := 30) (v := ?vo_w21) (w1 := (wr.setCell ⟨go19, ((ji16) : Int).toNat, none⟩ (.int .u8 ((ji15) % 256)))) ?hg ?ho ?hn ?hr ?_; (case ho => rfl); (case hg => rfl); (case hn => rfl); (case hr => first | (go_simp; done) | (go_simp; rfl)); intro w21 hw; have hg : wr.grownBy w21 (some go19) := (by rw [hw]; exact HP20.2); have hp_ : Kd.R (Kd.int .u8) 5 w21 w.heap.size (fun _ => True) (.slice (some ⟨go19, 0, none⟩) x5_3.length co11) y155 := (by rw [hw, Ny155.out]; exact HP20.1); clear HP20; replace HO_5 := zM (hp_); replace HB := zM ((by rw [hw]; exact below_set (HB.out) GB19.out : Below w.heap.size w w21)); clear hg hw hp_))
             (try simp only [← hl5_3])
             go_roundg k3
             case measure => have := HJ2.out; have := HJ4.out; have := HK3.out; omega
             case rel => exact ⟨(y155), (wrap64 (x17_3 + 1)), sR, H', ⟨by have := HJ2.out; have := HJ4.out; have := HK3.out; omega⟩, ⟨by (try simp only [hl5_3]); refine vR ?_; exact HO_5.out⟩, ⟨bB⟩⟩
            ·rw [if_neg c18] at H
             exact absurd H (by simp)
           ·rw [if_neg c17] at H
            exact absurd H (by simp)
          ·rw [if_neg c14] at H
           exact absurd H (by simp)
         ·rw [if_neg c12] at H
          have c12b0 : decide (x17_3 < (y152.length : Int)) = false := decide_eq_false c12
          (try (have c12b0hl5_3 := c12b0; rw [hl5_3] at c12b0hl5_3))
          clear c12
          obtain rfl := Option.some.inj H
          go_wp2
          go_ret
          exact ⟨_, by first | rfl | (simp [errW_none, errW_some] <;> rfl) | (simp [*, errW_none, errW_some] <;> rfl), by refine vR ?_; exact HO_5.out, bB⟩
      ·rw [if_neg c8] at H
       exact absurd H (by simp)
     ·rw [if_neg c7] at H
      exact absurd H (by simp)
def impl_mixed.l0 : Nat → Int → List Int → Int → Int → Option (Int)
 | 0, _, _, _, _ => none
 | k + 1, x0, x7, x8, x9 => if x9 < x8 then (if 0 ≤ x9 then (if x9 < (x7.length : Int) then (impl_mixed.l0 k (IntKind.u64.wrap ((Go.bits .xor .u64 x0 (IntKind.u64.wrap (rd x7 x9))) * 1099511628211)) x7 x8 (wrap64 (x9 + 1))) else (none)) else (none)) else (some x0)
def impl_mixed.f (k : Nat) (a0 : Int) (l1 : List Int) : Option (Int) := impl_mixed.l0 k a0 l1 (l1.length : Int) 0
set_option maxHeartbeats 8000000 in
set_option maxRecDepth 100000 in
theorem impl_mixed.calls (k : Nat) (a0 : Int) (A1 : Option Addr) (c1 : Nat) (l1 : List Int) (r : Int) (w : World) (hr1 : Kd.C (Kd.int .u8) w A1 l1.length l1) (hc1 : l1.length ≤ c1) (h : impl_mixed.f k a0 l1 = some r) :
  Calls Tryd.prog 90 #[.int .u64 a0, .slice A1 l1.length c1] w fun e w' => e = .returned (.int .u64 r) ∧ Drawn0 w w' := by
 have HR1 := zM hr1
 have HC1 := zM hc1
 clear hr1 hc1
 have H : (impl_mixed.l0 k a0 l1 (l1.length : Int) 0) = some r := h
 clear h
 have H' := zM H
 clear H
 go_enter Tryd.func90, Tryd.ntmps90
 go_wp2
 go_loopg [0, 9] k (fun kq v0 v9 w' => ∃ (x0_1 : Int) (x9_1 : Int), v0 = .int .u64 x0_1 ∧ v9 = .int .i64 x9_1 ∧ Aside0 (impl_mixed.l0 kq x0_1 l1 (l1.length : Int) x9_1 = some r) ∧ Aside0 (kq ≤ k) ∧ Drawn0 w w')
 case atStart => exact ⟨(a0), (0), sR, sR, H', ⟨Nat.le_refl _⟩, by repeat (first | exact Drawn0.refl _ | apply Drawn0.step)⟩
 case round =>
  clear H'
  try clear c1
  try clear p2
  obtain ⟨x0_1, x9_1, rfl, rfl, HA, HK1, ⟨m1, rfl⟩⟩ := hrel
  cases gk with
  | zero => exact absurd HA.out (by simp [impl_mixed.l0])
  | succ k1 =>
   have H := HA.out
   clear HA
   simp only [impl_mixed.l0] at H
   by_cases c3 : x9_1 < (l1.length : Int)
   ·rw [if_pos c3] at H
    have c3b0 : decide (x9_1 < (l1.length : Int)) = true := decide_eq_true c3
    clear c3
    by_cases c4 : 0 ≤ x9_1
    ·rw [if_pos c4] at H
     have c4b0 : decide (0 ≤ x9_1) = true := decide_eq_true c4
     clear c4
     by_cases c5 : x9_1 < (l1.length : Int)
     ·rw [if_pos c5] at H
      have c5b0 : decide (x9_1 < (l1.length : Int)) = true := decide_eq_true c5
      clear c5
      have H' := zM H
      clear H
      have p156 : 0 ≤ (x9_1 : Int) := dA
      have q156 : x9_1 < (l1.length : Int) := dA
      obtain ⟨ad156, e156, hx156_0⟩ := Kd.at_int HR1.out x9_1 p156 q156
      cases e156
      replace p156 := eq_true p156
      replace q156 := eq_true q156
      go_wp2
      go_roundg k1
      case measure => have := HK1.out; omega
      case rel => exact ⟨(IntKind.u64.wrap ((Go.bits .xor .u64 x0_1 (IntKind.u64.wrap (rd l1 x9_1))) * 1099511628211)), (wrap64 (x9_1 + 1)), sR, sR, H', ⟨by have := HK1.out; omega⟩, by repeat (first | exact Drawn0.refl _ | apply Drawn0.step)⟩
     ·rw [if_neg c5] at H
      exact absurd H (by simp)
    ·rw [if_neg c4] at H
     exact absurd H (by simp)
   ·rw [if_neg c3] at H
    have c3b0 : decide (x9_1 < (l1.length : Int)) = false := decide_eq_false c3
    clear c3
    obtain rfl := Option.some.inj H
    go_wp2
    go_ret
    exact ⟨by first | rfl | (simp; done) | (simp [*]; done), by repeat (first | exact Drawn0.refl _ | apply Drawn0.step)⟩
def impl_toy_HashChildren.f (k : Nat) (a0_0 : Int) (a0_1 : Int) (a0_2 : Int) (a0_3 : Int) (a0_4 : Int) (a0_5 : Int) (l1 : List Int) (l2 : List Int) : Option (List Int) := if a0_0 = 1 then ((impl_mixed.f k a0_5 l1).bind fun t158 => ((impl_mixed.f k t158 (([255] : List Int))).bind fun t162 => ((impl_mixed.f k t162 l2).bind fun t163 => ((impl_word.f k t163 a0_2).bind fun t164 => (some t164))))) else ((some (([1] : List Int) : List Int)).bind fun y167 => ((impl_word.f k (IntKind.u64.wrap ((l1.length : Int))) 8).bind fun t170 => (if y167.length + t170.length < 140737488355328 then ((some (y167 ++ t170 : List Int)).bind fun y173 => (if y173.length + l1.length < 140737488355328 then ((some (y173 ++ l1 : List Int)).bind fun y176 => (if y176.length + l2.length < 140737488355328 then (some (y176 ++ l2)) else (none))) else (none))) else (none))))
def impl_toy_HashChildren.T2 : Bool × List (List Nat × List Nat) := (true, [([], []), ([0], [0]), ([1], [1]), ([], []), ([2, 3], [2, 3]), ([], []), ([4, 5, 4], [4, 5]), ([], []), ([6, 7, 6], [6, 7]), ([], []), ([9], [9]), ([10], [10]), ([8, 11, 8], [8, 11]), ([12, 12, 0, 1, 2, 3, 4, 5, 6, 7, 8, 9, 10, 11, 12], [12])])
def impl_toy_HashChildren.B2 : List Nat := [0, 1, 3, 0, 15, 0, 63, 0, 255, 0, 512, 1536, 4095, 8191]
theorem impl_toy_HashChildren.tab2 : rtab .any (opsOf Tryd.f52 2) = impl_toy_HashChildren.T2 := by kernel_rfl
theorem impl_toy_HashChildren.bits2 : waitsOk impl_toy_HashChildren.T2.2 impl_toy_HashChildren.B2 = true := by kernel_rfl
set_option maxHeartbeats 8000000 in
set_option maxRecDepth 100000 in
theorem impl_toy_HashChildren.calls (k : Nat) (a0_0 : Int) (a0_1 : Int) (a0_2 : Int) (a0_3 : Int) (a0_4 : Int) (a0_5 : Int) (A1 : Option Addr) (c1 : Nat) (l1 : List Int) (A2 : Option Addr) (c2 : Nat) (l2 : List Int) (r : List Int) (w : World) (hr1 : Kd.C (Kd.int .u8) w A1 l1.length l1) (hc1 : l1.length ≤ c1) (hr2 : Kd.C (Kd.int .u8) w A2 l2.length l2) (hc2 : l2.length ≤ c2) (h : impl_toy_HashChildren.f k a0_0 a0_1 a0_2 a0_3 a0_4 a0_5 l1 l2 = some r) :
  Calls Tryd.prog 52 #[.agg #[.int .i64 a0_0, .int .i64 a0_1, .int .i64 a0_2, .int .u64 a0_3, .int .u64 a0_4, .int .u64 a0_5], .slice A1 l1.length c1, .slice A2 l2.length c2] w fun e w' => ∃ v0_ : Value, e = .returned (v0_) ∧ Kd.R (Kd.int .u8) 5 w' w.heap.size (fun _ => True) v0_ r ∧ Below w.heap.size w w' := by
 have hu85 := Tryd.underlying85
 have HR1 := zM hr1
 have HC1 := zM hc1
 clear hr1 hc1
 have HR2 := zM hr2
 have HC2 := zM hc2
 clear hr2 hc2
 have HB := zM (Below.refl w.heap.size w)
 have H : (if a0_0 = 1 then ((impl_mixed.f k a0_5 l1).bind fun t158 => ((impl_mixed.f k t158 (([255] : List Int))).bind fun t162 => ((impl_mixed.f k t162 l2).bind fun t163 => ((impl_word.f k t163 a0_2).bind fun t164 => (some t164))))) else ((some (([1] : List Int) : List Int)).bind fun y167 => ((impl_word.f k (IntKind.u64.wrap ((l1.length : Int))) 8).bind fun t170 => (if y167.length + t170.length < 140737488355328 then ((some (y167 ++ t170 : List Int)).bind fun y173 => (if y173.length + l1.length < 140737488355328 then ((some (y173 ++ l1 : List Int)).bind fun y176 => (if y176.length + l2.length < 140737488355328 then (some (y176 ++ l2)) else (none))) else (none))) else (none))))) = some r := h
 clear h
 by_cases c4 : a0_0 = 1
 ·rw [if_pos c4] at H
  have c4b0 : (a0_0 == 1) = true := beq_iff_eq.mpr c4
  have c4b1 : (a0_0 != 1) = false := bne_eq_false_iff_eq.mpr c4
  clear c4
  replace H := Option.bind_eq_some_iff.mp H
  obtain ⟨t158, A50, H⟩ := H
  (try dsimp only at H)
  have A5 := zM A50
  clear A50
  obtain ⟨y159, hy159⟩ : ∃ y_ : List Int, y_ = (([255] : List Int)) := ⟨_, rfl⟩
  replace H : ((impl_mixed.f k t158 y159).bind fun t162 => ((impl_mixed.f k t162 l2).bind fun t163 => ((impl_word.f k t163 a0_2).bind fun t164 => (some t164)))) = some r := by first | (rw [hy159]; with_reducible exact H) | (have H := (Option.bind_some _ _).symm.trans H; first | (rw [hy159]; with_reducible exact H) | with_reducible exact H) | (rw [hy159]; exact H) | exact H
  have Ny159 := zM hy159
  clear hy159
  replace H := Option.bind_eq_some_iff.mp H
  obtain ⟨t162, A60, H⟩ := H
  (try dsimp only at H)
  have A6 := zM A60
  clear A60
  replace H := Option.bind_eq_some_iff.mp H
  obtain ⟨t163, A70, H⟩ := H
  (try dsimp only at H)
  have A7 := zM A70
  clear A70
  replace H := Option.bind_eq_some_iff.mp H
  obtain ⟨t164, A80, H⟩ := H
  (try dsimp only at H)
  have A8 := zM A80
  clear A80
  obtain rfl := Option.some.inj H
  go_enter Tryd.func52, Tryd.ntmps52
  try go_wp2_with (first | ((with_reducible refine gate_dst (N := 3) rfl ?_); refine bx 3 #[.int .i64 a0_0, .int .i64 a0_1, .int .i64 a0_2, .int .u64 a0_3, .int .u64 a0_4, .int .u64 a0_5] 85 ?_; intro gb157 hg w9 hbox hb; have BK157 := zM (hbox); have GW157 := zM ((gB hg : w.heap.size ≤ gb157)); have GE157 := zM ((gB hg : w.heap.size ≤ gb157)); replace HB := zM (below_step bB hb); clear hb hbox hg; obtain ⟨hcz10_0, hcz10_1, hcz10_2, hcz10_3, hcz10_4, hcz10_5⟩ := h6 BK157; obtain ⟨hfz10_0, hfz10_1, hfz10_2, hfz10_3, hfz10_4, hfz10_5⟩ := f6 BK157))
  replace BK157 := zM (blk_drew BK157.out)
  replace HB := zM (below_drew1 HB.out)
  refine start_ (n := 14) (S := fun w' => C6 w' gb157 (.int .i64 a0_0) (.int .i64 a0_1) (.int .i64 a0_2) (.int .u64 a0_3) (.int .u64 a0_4) (.int .u64 a0_5)) (ds := []) #[ff,ff,ff,ff,ff,ff,ff,ff,ff,ff,ff,ff,ff,ff] (by kernel_rfl) rfl rfl (h6 BK157) (fun hHeld => ?_); refine with_tabW impl_toy_HashChildren.tab2 impl_toy_HashChildren.bits2 (fun HT_ HW_ => ?_)
  generalize w9.drew = w11 at BK157 HB hHeld ⊢
  refine pA 0 (some 12) #[tt,ff,ff,ff,ff,ff,ff,ff,ff,ff,ff,ff,ff,ff] HT_ ?_
  refine pA 1 (some 13) #[tt,tt,ff,ff,ff,ff,ff,ff,ff,ff,ff,ff,ff,ff] HT_ ?_
  refine pA 3 (some 15) #[tt,tt,ff,tt,ff,ff,ff,ff,ff,ff,ff,ff,ff,ff] HT_ ?_
  refine pA 7 (some 19) #[tt,tt,ff,tt,ff,ff,ff,tt,ff,ff,ff,ff,ff,ff] HT_ ?_
  refine pA 9 (some 21) #[tt,tt,ff,tt,ff,ff,ff,tt,ff,tt,ff,ff,ff,ff] HT_ ?_
  refine pA 10 (some 22) #[tt,tt,ff,tt,ff,ff,ff,tt,ff,tt,tt,ff,ff,ff] HT_ ?_
  refine tA 2 (some 14) #[tt,tt,tt,tt,ff,ff,ff,tt,ff,tt,tt,ff,ff,ff] rfl rfl HT_ HW_ hHeld (by rintro w' ⟨s0, s1, s2, s3, s4, s5⟩; go_simp; with_reducible rfl) ?_
  refine tA 11 (some 23) #[tt,tt,tt,tt,ff,ff,ff,tt,ff,tt,tt,tt,ff,ff] rfl rfl HT_ HW_ hHeld (by rintro w' ⟨s0, s1, s2, s3, s4, s5⟩; go_simp; with_reducible rfl) ?_
  refine join_ (σ := Value) 4 #[tt,tt,tt,tt,tt,tt,ff,tt,ff,tt,tt,tt,ff,ff] (fun s_ => [(16, .int .u64 t158), (17, s_)]) (fun s_ w' => (C6 w' gb157 (.int .i64 a0_0) (.int .i64 a0_1) (.int .i64 a0_2) (.int .u64 a0_3) (.int .u64 a0_4) (.int .u64 a0_5)) ∧ (Kd.R (Kd.int .u8) 5 w' w.heap.size (fun _ => True) s_ y159) ∧ (w'.heap[gb157]? = some (.cells #[.int .i64 a0_0, .int .i64 a0_1, .int .i64 a0_2, .int .u64 a0_3, .int .u64 a0_4, .int .u64 a0_5] 85 (0, 0))) ∧ (Below w.heap.size w w')) ?_ ?_
  rotate_left
  ·intro hCont
   refine two_ (i := 4) (j := 5) (Ni := some 16) (Nj := some 17) #[tt,tt,tt,tt,tt,ff,ff,tt,ff,tt,tt,tt,ff,ff] #[tt,tt,tt,tt,ff,tt,ff,tt,ff,tt,tt,tt,ff,ff] rfl rfl rfl rfl (two_of HT_.out (by kernel_rfl)) (by decide) (by decide) (fun K hK => ?_) (fun K hK => ?_)
   ·skip
    refine goes_ Tryd.func90 (by kernel_rfl) rfl #[.int .u64 a0_5, .slice A1 l1.length c1] (by rfl) rfl rfl aV ?_
    with_reducible refine (impl_mixed.calls k a0_5 _ _ l1 t158 _ ?side1 ?side2 A5.out).mono ?_
    (case side1 => repeat (first | exact (Kd.C_below HR1.out HB.out) | (with_reducible refine Kd.C_alloc ?_ _) | (with_reducible refine Kd.C_drewN ?_ _) | (with_reducible refine Kd.C_drew ?_)))
    (case side2 => exact HC1.out)
    rintro e w' ⟨rfl, ⟨nd, rfl⟩⟩
    refine ⟨_, rfl, ?_⟩
    refine hK.out _ _ (h6 BK157) (fun hHeld => ?_)
    clear hK K
    refine nS ?_
    refine one_ (i := 5) (N := some 17) #[tt,tt,tt,tt,tt,tt,ff,tt,ff,tt,tt,tt,ff,ff] rfl rfl (one_of HT_.out (by kernel_rfl)) (by decide) (fun K hK => ?_)
    refine Kd.R_lit_step (Kd.int .u8) _ 5 ?hg (N := 17) ?hd (xs := ([255] : List Int)) (inner := [.int .u8 255]) (ok := fun _ => True) (okp := fun _ => True) ?hr ?hp (fun _ hk => hk) trivial (Below.refl _ _) (Nat.le_refl _) (by simp) ?_; (case hd => rfl); (case hg => rfl); (case hr => first | (go_simp; done) | (go_simp; rfl)); (case hp => exact (Reps.one (show Kd.M (Kd.int .u8) _ _ _ 255 [.int .u8 255] from rfl) (Reps.none _ _)))
    intro v160 w12 ho13 hb hg_ hnew_
    clear hg_ hnew_
    (first | rw [← Ny159.out] at ho13 | (simp only [Int.reduceToNat] at ho13; rw [← Ny159.out] at ho13))
    have HO161 := zM (Kd.R_lower ho13 (below_size bB))
    replace BK157 := zM (bK BK157 hb)
    replace HB := zM (below_step bB hb)
    clear hb ho13
    refine hK.out _ _ (h6 BK157) (fun hHeld => ?_)
    clear hK K
    refine nS ?_
    exact norm_ (by simp only [putAll, Act.put, List.setIfInBounds_toArray, List.set_cons_zero, List.set_cons_succ]) (hCont (v160) _ ⟨hHeld, (kR HO161.out), (kB BK157.out), bB⟩)
   ·skip
    refine Kd.R_lit_step (Kd.int .u8) _ 5 ?hg (N := 17) ?hd (xs := ([255] : List Int)) (inner := [.int .u8 255]) (ok := fun _ => True) (okp := fun _ => True) ?hr ?hp (fun _ hk => hk) trivial (Below.refl _ _) (Nat.le_refl _) (by simp) ?_; (case hd => rfl); (case hg => rfl); (case hr => first | (go_simp; done) | (go_simp; rfl)); (case hp => exact (Reps.one (show Kd.M (Kd.int .u8) _ _ _ 255 [.int .u8 255] from rfl) (Reps.none _ _)))
    intro v160 w12 ho13 hb hg_ hnew_
    clear hg_ hnew_
    (first | rw [← Ny159.out] at ho13 | (simp only [Int.reduceToNat] at ho13; rw [← Ny159.out] at ho13))
    have HO161 := zM (Kd.R_lower ho13 (below_size bB))
    replace BK157 := zM (bK BK157 hb)
    replace HB := zM (below_step bB hb)
    clear hb ho13
    refine hK.out _ _ (h6 BK157) (fun hHeld => ?_)
    clear hK K
    refine nS ?_
    refine one_ (i := 4) (N := some 16) #[tt,tt,tt,tt,tt,tt,ff,tt,ff,tt,tt,tt,ff,ff] rfl rfl (one_of HT_.out (by kernel_rfl)) (by decide) (fun K hK => ?_)
    refine goes_ Tryd.func90 (by kernel_rfl) rfl #[.int .u64 a0_5, .slice A1 l1.length c1] (by rfl) rfl rfl aV ?_
    with_reducible refine (impl_mixed.calls k a0_5 _ _ l1 t158 _ ?side1 ?side2 A5.out).mono ?_
    (case side1 => repeat (first | exact (Kd.C_below HR1.out HB.out) | (with_reducible refine Kd.C_alloc ?_ _) | (with_reducible refine Kd.C_drewN ?_ _) | (with_reducible refine Kd.C_drew ?_)))
    (case side2 => exact HC1.out)
    rintro e w' ⟨rfl, ⟨nd, rfl⟩⟩
    refine ⟨_, rfl, ?_⟩
    refine hK.out _ _ (h6 BK157) (fun hHeld => ?_)
    clear hK K
    refine nS ?_
    exact norm_ (by simp only [putAll, Act.put, List.setIfInBounds_toArray, List.set_cons_zero, List.set_cons_succ]) (hCont (v160) _ ⟨hHeld, (kR HO161.out), (kB BK157.out), bB⟩)
  rintro v160 w14 ⟨hS_, h0_, h1_, h2_⟩
  have n0_ : Aside0 (Kd.R (Kd.int .u8) 5 w14 w.heap.size (fun _ => True) v160 y159) := ⟨h0_⟩
  have n1_ : Aside0 (w14.heap[gb157]? = some (.cells #[.int .i64 a0_0, .int .i64 a0_1, .int .i64 a0_2, .int .u64 a0_3, .int .u64 a0_4, .int .u64 a0_5] 85 (0, 0))) := ⟨h1_⟩
  have n2_ : Aside0 (Below w.heap.size w w14) := ⟨h2_⟩
  clear BK157
  clear HB
  clear h0_ h1_ h2_
  have HO161 := n0_
  have BK157 := n1_
  have HB := n2_
  clear n0_ n1_ n2_
  have hHeld : C6 w14 gb157 (.int .i64 a0_0) (.int .i64 a0_1) (.int .i64 a0_2) (.int .u64 a0_3) (.int .u64 a0_4) (.int .u64 a0_5) := hS_
  obtain ⟨Ao15, co15, eo15⟩ := Kd.R_slice HO161.out
  (first | subst eo15 | (injection eo15 with f1_ f2_ f3_; have f4_ := f1_.symm; have f5_ := f3_.symm; clear f1_ f2_ f3_; subst f4_; subst f5_))
  refine nB ?_
  refine one_ (i := 6) (N := some 18) #[tt,tt,tt,tt,tt,tt,tt,tt,ff,tt,tt,tt,ff,ff] rfl rfl (one_of HT_.out (by kernel_rfl)) (by decide) (fun K hK => ?_)
  refine goes_ Tryd.func90 (by kernel_rfl) rfl #[.int .u64 t158, .slice Ao15 y159.length co15] (by rfl) rfl rfl aV ?_
  with_reducible refine (impl_mixed.calls k t158 _ _ y159 t162 _ ?side1 ?side2 A6.out).mono ?_
  (case side1 => repeat (first | exact (Kd.R_reads' HO161.out).2.2 | (with_reducible refine Kd.C_alloc ?_ _) | (with_reducible refine Kd.C_drewN ?_ _) | (with_reducible refine Kd.C_drew ?_)))
  (case side2 => exact (Kd.R_reads' HO161.out).2.1)
  rintro e w' ⟨rfl, ⟨nd, rfl⟩⟩
  refine ⟨_, rfl, ?_⟩
  refine hK.out _ _ (h6 BK157) (fun hHeld => ?_)
  clear hK K
  refine nS ?_
  refine one_ (i := 8) (N := some 20) #[tt,tt,tt,tt,tt,tt,tt,tt,tt,tt,tt,tt,ff,ff] rfl rfl (one_of HT_.out (by kernel_rfl)) (by decide) (fun K hK => ?_)
  refine goes_ Tryd.func90 (by kernel_rfl) rfl #[.int .u64 t162, .slice A2 l2.length c2] (by rfl) rfl rfl aV ?_
  with_reducible refine (impl_mixed.calls k t162 _ _ l2 t163 _ ?side1 ?side2 A7.out).mono ?_
  (case side1 => repeat (first | exact (Kd.C_below HR2.out bB) | (with_reducible refine Kd.C_alloc ?_ _) | (with_reducible refine Kd.C_drewN ?_ _) | (with_reducible refine Kd.C_drew ?_)))
  (case side2 => exact HC2.out)
  rintro e w' ⟨rfl, ⟨nd, rfl⟩⟩
  refine ⟨_, rfl, ?_⟩
  refine hK.out _ _ (h6 BK157) (fun hHeld => ?_)
  clear hK K
  refine nS ?_
  refine one_ (i := 12) (N := some 24) #[tt,tt,tt,tt,tt,tt,tt,tt,tt,tt,tt,tt,tt,ff] rfl rfl (one_of HT_.out (by kernel_rfl)) (by decide) (fun K hK => ?_)
  refine goes_ Tryd.func89 (by kernel_rfl) rfl #[.int .u64 t163, .int .i64 a0_2] (by rfl) rfl rfl aV ?_
  with_reducible refine (impl_word.calls k t163 a0_2 t164 _ A8.out).mono ?_
  rintro e w16 ⟨v165, rfl, ho0, hb⟩
  refine ⟨_, rfl, ?_⟩
  have HO166 := zM (Kd.R_lower (Kd.R_new' ho0 (Kd.R_lt (kR HO161.out))) (below_size bB))
  replace HO161 := zM (Kd.R_elder' (kR HO161.out) (Kd.R_base ho0) hb)
  replace BK157 := zM (bK BK157 hb)
  replace HB := zM (below_step bB hb)
  refine hK.out _ _ (h6 BK157) (fun hHeld => ?_)
  clear hK K
  refine nS ?_
  refine pA 13 (some 6) #[tt,tt,tt,tt,tt,tt,tt,tt,tt,tt,tt,tt,tt,tt] HT_ ?_
  refine done_ (done_of HT_.out (by kernel_rfl)) ?_
  try go_wp2
  go_ret
  exact ⟨_, by first | rfl | (simp [errW_none, errW_some] <;> rfl) | (simp [*, errW_none, errW_some] <;> rfl), by refine vR ?_; exact Kd.R_mono HO166.out (fun _ hk => trivial), bB⟩
 ·rw [if_neg c4] at H
  have c4b0 : (a0_0 == 1) = false := beq_eq_false_iff_ne.mpr c4
  have c4b1 : (a0_0 != 1) = true := bne_iff_ne.mpr c4
  obtain ⟨y167, hy167⟩ : ∃ y_ : List Int, y_ = (([1] : List Int)) := ⟨_, rfl⟩
  replace H : ((impl_word.f k (IntKind.u64.wrap ((l1.length : Int))) 8).bind fun t170 => (if y167.length + t170.length < 140737488355328 then ((some (y167 ++ t170 : List Int)).bind fun y173 => (if y173.length + l1.length < 140737488355328 then ((some (y173 ++ l1 : List Int)).bind fun y176 => (if y176.length + l2.length < 140737488355328 then (some (y176 ++ l2)) else (none))) else (none))) else (none))) = some r := by first | (rw [hy167]; with_reducible exact H) | (have H := (Option.bind_some _ _).symm.trans H; first | (rw [hy167]; with_reducible exact H) | with_reducible exact H) | (rw [hy167]; exact H) | exact H
  have Ny167 := zM hy167
  clear hy167
  replace H := Option.bind_eq_some_iff.mp H
  obtain ⟨t170, A170, H⟩ := H
  (try dsimp only at H)
  have A17 := zM A170
  clear A170
  by_cases c18 : y167.length + t170.length < 140737488355328
  ·rw [if_pos c18] at H
   have LMc18 := zM c18
   clear c18
   obtain ⟨y173, hy173⟩ : ∃ y_ : List Int, y_ = (y167 ++ t170) := ⟨_, rfl⟩
   replace H : (if y173.length + l1.length < 140737488355328 then ((some (y173 ++ l1 : List Int)).bind fun y176 => (if y176.length + l2.length < 140737488355328 then (some (y176 ++ l2)) else (none))) else (none)) = some r := by first | (rw [hy173]; with_reducible exact H) | (have H := (Option.bind_some _ _).symm.trans H; first | (rw [hy173]; with_reducible exact H) | with_reducible exact H) | (rw [hy173]; exact H) | exact H
   have Ny173 := zM hy173
   clear hy173
   by_cases c19 : y173.length + l1.length < 140737488355328
   ·rw [if_pos c19] at H
    have LMc19 := zM c19
    clear c19
    obtain ⟨y176, hy176⟩ : ∃ y_ : List Int, y_ = (y173 ++ l1) := ⟨_, rfl⟩
    replace H : (if y176.length + l2.length < 140737488355328 then (some (y176 ++ l2)) else (none)) = some r := by first | (rw [hy176]; with_reducible exact H) | (have H := (Option.bind_some _ _).symm.trans H; first | (rw [hy176]; with_reducible exact H) | with_reducible exact H) | (rw [hy176]; exact H) | exact H
    have Ny176 := zM hy176
    clear hy176
    by_cases c20 : y176.length + l2.length < 140737488355328
    ·rw [if_pos c20] at H
     have LMc20 := zM c20
     clear c20
     obtain ⟨y179, hy179⟩ : ∃ y_ : List Int, y_ = (y176 ++ l2) := ⟨_, rfl⟩
     replace H : (some y179) = some r := by first | (rw [hy179]; with_reducible exact H) | (have H := (Option.bind_some _ _).symm.trans H; first | (rw [hy179]; with_reducible exact H) | with_reducible exact H) | (rw [hy179]; exact H) | exact H
     have Ny179 := zM hy179
     clear hy179
     obtain rfl := Option.some.inj H
     go_enter Tryd.func52, Tryd.ntmps52
     go_wp2_with (first | ((with_reducible refine gate_dst (N := 3) rfl ?_); refine bx 3 #[.int .i64 a0_0, .int .i64 a0_1, .int .i64 a0_2, .int .u64 a0_3, .int .u64 a0_4, .int .u64 a0_5] 85 ?_; intro gb157 hg w21 hbox hb; have BK157 := zM (hbox); have GW157 := zM ((gB hg : w.heap.size ≤ gb157)); have GE157 := zM ((gB hg : w.heap.size ≤ gb157)); replace HB := zM (below_step bB hb); clear hb hbox hg; obtain ⟨hcz22_0, hcz22_1, hcz22_2, hcz22_3, hcz22_4, hcz22_5⟩ := h6 BK157; obtain ⟨hfz22_0, hfz22_1, hfz22_2, hfz22_3, hfz22_4, hfz22_5⟩ := f6 BK157) | ((with_reducible refine gate_dst (N := 25) rfl ?_); refine Kd.R_lit (Kd.int .u8) _ 5 ?hg (N := 25) ?hd (xs := ([1] : List Int)) (inner := [.int .u8 1]) (ok := fun _ => True) (okp := fun _ => True) ?hr ?hp (fun _ hk => hk) trivial (Below.refl _ _) (Nat.le_refl _) (by simp) ?_; (case hd => rfl); (case hg => rfl); (case hr => first | (go_simp; done) | (go_simp; rfl)); (case hp => exact (Reps.one (show Kd.M (Kd.int .u8) _ _ _ 1 [.int .u8 1] from rfl) (Reps.none _ _))); intro v168 w23 ho24 hb hg_ hnew_; clear hg_ hnew_; (first | rw [← Ny167.out] at ho24 | (simp only [Int.reduceToNat] at ho24; rw [← Ny167.out] at ho24)); have HO169 := zM (Kd.R_lower ho24 (below_size bB)); replace BK157 := zM (bK BK157 hb); replace HB := zM (below_step bB hb); clear hb ho24) | ((with_reducible refine gate_callee (f := 89) rfl ?_); refine goesL_ (some 29) rfl rfl Tryd.func89 (by kernel_rfl) rfl #[.int .u64 (IntKind.u64.wrap ((l1.length : Int))), .int .i64 8] rfl aV ?_; (with_reducible refine (impl_word.calls k (IntKind.u64.wrap ((l1.length : Int))) 8 t170 _ A17.out).mono ?_); rintro e w25 ⟨v171, rfl, ho0, hb⟩; refine ⟨_, rfl, ?_⟩; have HO172 := zM (Kd.R_lower (Kd.R_new' ho0 (Kd.R_lt (kR HO169.out))) (below_size bB)); replace HO169 := zM (Kd.R_elder' (kR HO169.out) (Kd.R_base ho0) hb); replace BK157 := zM (bK BK157 hb); replace HB := zM (below_step bB hb); obtain ⟨Ao27, co27, eo27⟩ := Kd.R_slice HO172.out; subst eo27) | ((with_reducible refine gate_builtin (b := .append) (xs := #[.tmp 25, .tmp 29]) rfl ?_); at_builtin; refine Kd.R_append_rows (Kd.int .u8) (w0 := w) w.heap.size rfl (.tmp 25) (.tmp 29) 27 5 (.int .u8 0) 1 rfl Tryd.underlying27 info5 rfl (by decide) (by omega) v168 y167 t170 _ _ _ (fun k_ => some k_ ≠ (.slice Ao27 t170.length co27 : Value).ownBlock) (fun _ => False) rfl rfl ?aO ?aR (fun _ _ h => h) (fun _ h => h.elim) ?aF ?aB ?aS ?aL ?_; (case aR => repeat (first | exact (Kd.R_reads' HO172.out).2.2 | (with_reducible refine Kd.C_alloc ?_ _) | (with_reducible refine Kd.C_drewN ?_ _) | (with_reducible refine Kd.C_drew ?_))); (case aB => exact bB); (case aF => exact (fun k_ hk => Kd.fresh' (Kd.R_lt (kR HO172.out)) k_ hk)); (case aO => exact (by refine vR ?_; exact Kd.R_mono HO169.out (fun _ hk => hk.2))); (case aS => exact (below_size bB)); (case aL => have := LMc18.out; omega); intro v174 w26 ho hb hg hat; rw [← Ny173.out] at ho; replace BK157 := zM (blk_grown (g := gb157) (o := .cells #[.int .i64 a0_0, .int .i64 a0_1, .int .i64 a0_2, .int .u64 a0_3, .int .u64 a0_4, .int .u64 a0_5] 85 (0, 0)) (kB BK157.out) hg (Kd.R_ne HO169.out BK157.out (by decide))); replace HO172 := zM (Kd.R_after (ok := (fun _ => True)) (kR HO172.out) hg hat); replace HB := zM (hb); have HO175 := zM (ho); clear HO169; clear ho hb hg hat) | ((with_reducible refine gate_builtin (b := .append) (xs := #[.tmp 31, .tmp 32]) rfl ?_); at_builtin; refine Kd.R_append_rows (Kd.int .u8) (w0 := w) w.heap.size rfl (.tmp 31) (.tmp 32) 27 5 (.int .u8 0) 1 rfl Tryd.underlying27 info5 rfl (by decide) (by omega) v174 y173 l1 _ _ _ (fun k_ => some k_ ≠ (.slice Ao27 t170.length co27 : Value).ownBlock) (fun _ => False) rfl rfl ?aO ?aR (fun _ _ h => h) (fun _ h => h.elim) ?aF ?aB ?aS ?aL ?_; (case aR => repeat (first | exact (Kd.C_below HR1.out HB.out) | (with_reducible refine Kd.C_alloc ?_ _) | (with_reducible refine Kd.C_drewN ?_ _) | (with_reducible refine Kd.C_drew ?_))); (case aB => exact bB); (case aF => exact (fun k_ hk => Kd.fresh' (Kd.R_lt (kR HO172.out)) k_ hk)); (case aO => exact (kR HO175.out)); (case aS => exact (below_size bB)); (case aL => have := LMc19.out; omega); intro v177 w28 ho hb hg hat; rw [← Ny176.out] at ho; replace BK157 := zM (blk_grown (g := gb157) (o := .cells #[.int .i64 a0_0, .int .i64 a0_1, .int .i64 a0_2, .int .u64 a0_3, .int .u64 a0_4, .int .u64 a0_5] 85 (0, 0)) (kB BK157.out) hg (Kd.R_ne HO175.out BK157.out (by decide))); replace HO172 := zM (Kd.R_after (ok := (fun _ => True)) (kR HO172.out) hg hat); replace HB := zM (hb); have HO178 := zM (ho); clear HO175; clear ho hb hg hat) | ((with_reducible refine gate_builtin (b := .append) (xs := #[.tmp 33, .tmp 34]) rfl ?_); at_builtin; refine Kd.R_append_rows (Kd.int .u8) (w0 := w) w.heap.size rfl (.tmp 33) (.tmp 34) 27 5 (.int .u8 0) 1 rfl Tryd.underlying27 info5 rfl (by decide) (by omega) v177 y176 l2 _ _ _ (fun k_ => some k_ ≠ (.slice Ao27 t170.length co27 : Value).ownBlock) (fun _ => False) rfl rfl ?aO ?aR (fun _ _ h => h) (fun _ h => h.elim) ?aF ?aB ?aS ?aL ?_; (case aR => repeat (first | exact (Kd.C_below HR2.out HB.out) | (with_reducible refine Kd.C_alloc ?_ _) | (with_reducible refine Kd.C_drewN ?_ _) | (with_reducible refine Kd.C_drew ?_))); (case aB => exact bB); (case aF => exact (fun k_ hk => Kd.fresh' (Kd.R_lt (kR HO172.out)) k_ hk)); (case aO => exact (kR HO178.out)); (case aS => exact (below_size bB)); (case aL => have := LMc20.out; omega); intro v180 w29 ho hb hg hat; rw [← Ny179.out] at ho; replace BK157 := zM (blk_grown (g := gb157) (o := .cells #[.int .i64 a0_0, .int .i64 a0_1, .int .i64 a0_2, .int .u64 a0_3, .int .u64 a0_4, .int .u64 a0_5] 85 (0, 0)) (kB BK157.out) hg (Kd.R_ne HO178.out BK157.out (by decide))); replace HO172 := zM (Kd.R_after (ok := (fun _ => True)) (kR HO172.out) hg hat); replace HB := zM (hb); have HO181 := zM (ho); clear HO178; clear ho hb hg hat))
     go_ret
     exact ⟨_, by first | rfl | (simp [errW_none, errW_some] <;> rfl) | (simp [*, errW_none, errW_some] <;> rfl), by refine vR ?_; exact Kd.R_mono HO181.out (fun _ hk => trivial), bB⟩
    ·rw [if_neg c20] at H
     exact absurd H (by simp)
   ·rw [if_neg c19] at H
    exact absurd H (by simp)
  ·rw [if_neg c18] at H
   exact absurd H (by simp)
def proof_chainBorderRight.l0 : Nat → List Int → List (List Int) → Int → Int → Int → Int → Int → Int → Int → Int → Option (List Int)
 | 0, _, _, _, _, _, _, _, _, _, _ => none
 | k + 1, x1, x9, x10, x11, x9001000, x9001001, x9001002, x9001003, x9001004, x9001005 => if x11 < x10 then (if 0 ≤ x11 then (if x11 < (x9.length : Int) then ((impl_toy_HashChildren.f k x9001000 x9001001 x9001002 x9001003 x9001004 x9001005 (rd_L1 x9 x11) x1).bind fun t183 => (proof_chainBorderRight.l0 k t183 x9 x10 (wrap64 (x11 + 1)) x9001000 x9001001 x9001002 x9001003 x9001004 x9001005)) else (none)) else (none)) else (some x1)
def proof_chainBorderRight.f (k : Nat) (a0_0 : Int) (a0_1 : Int) (a0_2 : Int) (a0_3 : Int) (a0_4 : Int) (a0_5 : Int) (l1 : List Int) (l2 : List (List Int)) : Option (List Int) := proof_chainBorderRight.l0 k l1 l2 (l2.length : Int) 0 a0_0 a0_1 a0_2 a0_3 a0_4 a0_5
set_option maxHeartbeats 8000000 in
set_option maxRecDepth 100000 in
theorem proof_chainBorderRight.calls (k : Nat) (a0_0 : Int) (a0_1 : Int) (a0_2 : Int) (a0_3 : Int) (a0_4 : Int) (a0_5 : Int) (P1_ : Nat → Prop) (A1 : Option Addr) (c1 : Nat) (l1 : List Int) (A2 : Option Addr) (c2 : Nat) (l2 : List (List Int)) (r : List Int) (w : World) (hs1 : Kd.V (Kd.int .u8) 5 w w.heap.size (fun k_ => P1_ k_) (.slice A1 l1.length c1) l1) (hr2 : Kd.C (Kd.slice 5 (Kd.int .u8)) w A2 l2.length l2) (hc2 : l2.length ≤ c2) (h : proof_chainBorderRight.f k a0_0 a0_1 a0_2 a0_3 a0_4 a0_5 l1 l2 = some r) :
  Calls Tryd.prog 85 #[.iface 85 (.agg #[.int .i64 a0_0, .int .i64 a0_1, .int .i64 a0_2, .int .u64 a0_3, .int .u64 a0_4, .int .u64 a0_5]), .slice A1 l1.length c1, .slice A2 l2.length c2] w fun e w' => ∃ v0_ : Value, e = .returned (v0_) ∧ Kd.V (Kd.int .u8) 5 w' w.heap.size (fun k_ => (P1_ k_ ∨ w.heap.size ≤ k_)) v0_ r ∧ Below w.heap.size w w' := by
 have HO1 := zM (show Kd.V (Kd.int .u8) 5 w w.heap.size (fun k_ => (P1_ k_ ∨ w.heap.size ≤ k_)) (.slice A1 l1.length c1) l1 from Kd.V_mono hs1 (fun k_ hk => .inl hk))
 have HR2 := zM hr2
 have HC2 := zM hc2
 clear hr2 hc2
 have HB := zM (Below.refl w.heap.size w)
 have H : (proof_chainBorderRight.l0 k l1 l2 (l2.length : Int) 0 a0_0 a0_1 a0_2 a0_3 a0_4 a0_5) = some r := h
 clear h
 have H' := zM H
 clear H
 go_enter Tryd.func85, Tryd.ntmps85
 go_wp2
 go_loopg [1, 11] k (fun kq v1 v11 w' => ∃ (x1_1 : List Int) (x11_1 : Int), v11 = .int .i64 x11_1 ∧ Aside0 (proof_chainBorderRight.l0 kq x1_1 l2 (l2.length : Int) x11_1 a0_0 a0_1 a0_2 a0_3 a0_4 a0_5 = some r) ∧ Aside0 (kq ≤ k) ∧ Aside0 (Kd.V (Kd.int .u8) 5 w' w.heap.size (fun k_ => (P1_ k_ ∨ w.heap.size ≤ k_)) v1 x1_1) ∧ Aside0 (Below w.heap.size w w'))
 case atStart => exact ⟨(l1), (0), sR, H', ⟨Nat.le_refl _⟩, ⟨kV HO1.out⟩, ⟨bB⟩⟩
 case round =>
  clear H'
  try clear c1
  try clear c2
  try clear p2
  obtain ⟨x1_1, x11_1, rfl, HA, HK1, HO_1, HB⟩ := hrel
  cases gk with
  | zero => exact absurd HA.out (by simp [proof_chainBorderRight.l0])
  | succ k1 =>
   have H := HA.out
   clear HA
   simp only [proof_chainBorderRight.l0] at H
   by_cases c4 : x11_1 < (l2.length : Int)
   ·rw [if_pos c4] at H
    have c4b0 : decide (x11_1 < (l2.length : Int)) = true := decide_eq_true c4
    clear c4
    by_cases c5 : 0 ≤ x11_1
    ·rw [if_pos c5] at H
     have c5b0 : decide (0 ≤ x11_1) = true := decide_eq_true c5
     clear c5
     by_cases c6 : x11_1 < (l2.length : Int)
     ·rw [if_pos c6] at H
      have c6b0 : decide (x11_1 < (l2.length : Int)) = true := decide_eq_true c6
      clear c6
      replace H := Option.bind_eq_some_iff.mp H
      obtain ⟨t183, A70, H⟩ := H
      (try dsimp only at H)
      have A7 := zM A70
      clear A70
      have H' := zM H
      clear H
      have p182 : 0 ≤ (x11_1 : Int) := dA
      have q182 : x11_1 < (l2.length : Int) := dA
      obtain ⟨ad182, A182_0, c182_0, e182, hx182_0, hl182_0, hi182_0⟩ := at_L1 HR2.out x11_1 p182 q182
      cases e182
      replace hx182_0 := (HB.out.cell (World.block_lt_of_cell? w _ hx182_0)).trans hx182_0
      have HR182_0 := zM hi182_0
      have HC182_0 := zM hl182_0
      clear hi182_0 hl182_0
      replace p182 := eq_true p182
      replace q182 := eq_true q182
      obtain ⟨Ao8, co8, eo8⟩ := Kd.V_slice HO_1.out
      subst eo8
      go_wp2_with (first | ((with_reducible refine gate_invoke (m := "HashChildren") rfl ?_); refine invokesL_ (some 18) rfl rfl Tryd.func52 (by kernel_rfl) rfl 85 (.agg #[.int .i64 a0_0, .int .i64 a0_1, .int .i64 a0_2, .int .u64 a0_3, .int .u64 a0_4, .int .u64 a0_5]) #[.slice A182_0 (rd_L1 l2 x11_1).length c182_0, .slice Ao8 x1_1.length co8] #[.agg #[.int .i64 a0_0, .int .i64 a0_1, .int .i64 a0_2, .int .u64 a0_3, .int .u64 a0_4, .int .u64 a0_5], .slice A182_0 (rd_L1 l2 x11_1).length c182_0, .slice Ao8 x1_1.length co8] rfl rfl (by first | rfl | (simp only [Act.eval]; rfl)) aV (fun _ => by kernel_rfl) ?_; (with_reducible refine (impl_toy_HashChildren.calls k1 a0_0 a0_1 a0_2 a0_3 a0_4 a0_5 _ _ (rd_L1 l2 x11_1) _ _ x1_1 t183 _ ?side1 ?side2 ?side3 ?side4 A7.out).mono ?_); (case side1 => repeat (first | exact (Kd.C_below HR182_0.out HB.out) | (with_reducible refine Kd.C_alloc ?_ _) | (with_reducible refine Kd.C_drewN ?_ _) | (with_reducible refine Kd.C_drew ?_))); (case side2 => exact HC182_0.out); (case side3 => repeat (first | exact (Kd.V_reads' HO_1.out).2.2 | (with_reducible refine Kd.C_alloc ?_ _) | (with_reducible refine Kd.C_drewN ?_ _) | (with_reducible refine Kd.C_drew ?_))); (case side4 => exact (Kd.V_reads' HO_1.out).2.1); rintro e w9 ⟨v184, rfl, ho0, hb⟩; refine ⟨_, rfl, ?_⟩; replace HO_1 := zM (Kd.V_elder' (kV HO_1.out) (Kd.R_base ho0) hb); have HO185 := zM (Kd.R_lower (Kd.R_newM (M := fun k_ => (w.heap.size ≤ k_)) ho0 (below_size bB) (fun k_ h_ => h_)) (below_size bB)); replace HB := zM (below_step bB hb)))
      go_roundg k1
      case measure => have := HK1.out; omega
      case rel => exact ⟨(t183), (wrap64 (x11_1 + 1)), sR, H', ⟨by have := HK1.out; omega⟩, ⟨Kd.V_mono (Kd.R_V (by refine vR ?_; exact Kd.R_mono HO185.out (fun _ hk => hk.1))) (fun k_ hk => by first | exact ⟨(.inr (hk.1)), hk.2⟩ | exact (.inr (hk)))⟩, ⟨bB⟩⟩
     ·rw [if_neg c6] at H
      exact absurd H (by simp)
    ·rw [if_neg c5] at H
     exact absurd H (by simp)
   ·rw [if_neg c4] at H
    have c4b0 : decide (x11_1 < (l2.length : Int)) = false := decide_eq_false c4
    clear c4
    obtain rfl := Option.some.inj H
    go_wp2
    go_ret
    exact ⟨_, by first | rfl | (simp [errW_none, errW_some] <;> rfl) | (simp [*, errW_none, errW_some] <;> rfl), by refine vV ?_; exact HO_1.out, bB⟩
def proof_chainInner.l0 : Nat → List Int → Int → List (List Int) → Int → Int → Int → Int → Int → Int → Int → Int → Option (List Int)
 | 0, _, _, _, _, _, _, _, _, _, _, _ => none
 | k + 1, x1, x3, x11, x12, x13, x9001000, x9001001, x9001002, x9001003, x9001004, x9001005 => if x13 < x12 then (if 0 ≤ x13 then (if x13 < (x11.length : Int) then (if 0 ≤ (IntKind.u64.wrap (x13)) then (if (Go.bits .and .u64 (shr .u64 x3 (IntKind.u64.wrap (x13))) 1) = 0 then ((impl_toy_HashChildren.f k x9001000 x9001001 x9001002 x9001003 x9001004 x9001005 x1 (rd_L1 x11 x13)).bind fun t187 => (proof_chainInner.l0 k t187 x3 x11 x12 (wrap64 (x13 + 1)) x9001000 x9001001 x9001002 x9001003 x9001004 x9001005)) else ((impl_toy_HashChildren.f k x9001000 x9001001 x9001002 x9001003 x9001004 x9001005 (rd_L1 x11 x13) x1).bind fun t190 => (proof_chainInner.l0 k t190 x3 x11 x12 (wrap64 (x13 + 1)) x9001000 x9001001 x9001002 x9001003 x9001004 x9001005))) else (none)) else (none)) else (none)) else (some x1)
def proof_chainInner.f (k : Nat) (a0_0 : Int) (a0_1 : Int) (a0_2 : Int) (a0_3 : Int) (a0_4 : Int) (a0_5 : Int) (l1 : List Int) (l2 : List (List Int)) (a3 : Int) : Option (List Int) := proof_chainInner.l0 k l1 a3 l2 (l2.length : Int) 0 a0_0 a0_1 a0_2 a0_3 a0_4 a0_5
set_option maxHeartbeats 8000000 in
set_option maxRecDepth 100000 in
theorem proof_chainInner.calls (k : Nat) (a0_0 : Int) (a0_1 : Int) (a0_2 : Int) (a0_3 : Int) (a0_4 : Int) (a0_5 : Int) (P1_ : Nat → Prop) (A1 : Option Addr) (c1 : Nat) (l1 : List Int) (A2 : Option Addr) (c2 : Nat) (l2 : List (List Int)) (a3 : Int) (r : List Int) (w : World) (hs1 : Kd.V (Kd.int .u8) 5 w w.heap.size (fun k_ => P1_ k_) (.slice A1 l1.length c1) l1) (hr2 : Kd.C (Kd.slice 5 (Kd.int .u8)) w A2 l2.length l2) (hc2 : l2.length ≤ c2) (h : proof_chainInner.f k a0_0 a0_1 a0_2 a0_3 a0_4 a0_5 l1 l2 a3 = some r) :
  Calls Tryd.prog 86 #[.iface 85 (.agg #[.int .i64 a0_0, .int .i64 a0_1, .int .i64 a0_2, .int .u64 a0_3, .int .u64 a0_4, .int .u64 a0_5]), .slice A1 l1.length c1, .slice A2 l2.length c2, .int .u64 a3] w fun e w' => ∃ v0_ : Value, e = .returned (v0_) ∧ Kd.V (Kd.int .u8) 5 w' w.heap.size (fun k_ => (P1_ k_ ∨ w.heap.size ≤ k_)) v0_ r ∧ Below w.heap.size w w' := by
 have HO1 := zM (show Kd.V (Kd.int .u8) 5 w w.heap.size (fun k_ => (P1_ k_ ∨ w.heap.size ≤ k_)) (.slice A1 l1.length c1) l1 from Kd.V_mono hs1 (fun k_ hk => .inl hk))
 have HR2 := zM hr2
 have HC2 := zM hc2
 clear hr2 hc2
 have HB := zM (Below.refl w.heap.size w)
 have H : (proof_chainInner.l0 k l1 a3 l2 (l2.length : Int) 0 a0_0 a0_1 a0_2 a0_3 a0_4 a0_5) = some r := h
 clear h
 have H' := zM H
 clear H
 go_enter Tryd.func86, Tryd.ntmps86
 go_wp2
 go_loopg [1, 13] k (fun kq v1 v13 w' => ∃ (x1_1 : List Int) (x13_1 : Int), v13 = .int .i64 x13_1 ∧ Aside0 (proof_chainInner.l0 kq x1_1 a3 l2 (l2.length : Int) x13_1 a0_0 a0_1 a0_2 a0_3 a0_4 a0_5 = some r) ∧ Aside0 (kq ≤ k) ∧ Aside0 (Kd.V (Kd.int .u8) 5 w' w.heap.size (fun k_ => (P1_ k_ ∨ w.heap.size ≤ k_)) v1 x1_1) ∧ Aside0 (Below w.heap.size w w'))
 case atStart => exact ⟨(l1), (0), sR, H', ⟨Nat.le_refl _⟩, ⟨kV HO1.out⟩, ⟨bB⟩⟩
 case round =>
  clear H'
  try clear c1
  try clear c2
  try clear p2
  obtain ⟨x1_1, x13_1, rfl, HA, HK1, HO_1, HB⟩ := hrel
  cases gk with
  | zero => exact absurd HA.out (by simp [proof_chainInner.l0])
  | succ k1 =>
   have H := HA.out
   clear HA
   simp only [proof_chainInner.l0] at H
   by_cases c5 : x13_1 < (l2.length : Int)
   ·rw [if_pos c5] at H
    have c5b0 : decide (x13_1 < (l2.length : Int)) = true := decide_eq_true c5
    clear c5
    by_cases c6 : 0 ≤ x13_1
    ·rw [if_pos c6] at H
     have c6b0 : decide (0 ≤ x13_1) = true := decide_eq_true c6
     clear c6
     by_cases c7 : x13_1 < (l2.length : Int)
     ·rw [if_pos c7] at H
      have c7b0 : decide (x13_1 < (l2.length : Int)) = true := decide_eq_true c7
      clear c7
      obtain ⟨ji8, hji8⟩ : ∃ j_ : Int, (IntKind.u64.wrap (x13_1)) = j_ := ⟨_, rfl⟩
      replace H : (if 0 ≤ (ji8) then (if (Go.bits .and .u64 (shr .u64 a3 (ji8)) 1) = 0 then ((impl_toy_HashChildren.f k1 a0_0 a0_1 a0_2 a0_3 a0_4 a0_5 x1_1 (rd_L1 l2 x13_1)).bind fun t187 => (proof_chainInner.l0 k1 t187 a3 l2 (l2.length : Int) (wrap64 (x13_1 + 1)) a0_0 a0_1 a0_2 a0_3 a0_4 a0_5)) else ((impl_toy_HashChildren.f k1 a0_0 a0_1 a0_2 a0_3 a0_4 a0_5 (rd_L1 l2 x13_1) x1_1).bind fun t190 => (proof_chainInner.l0 k1 t190 a3 l2 (l2.length : Int) (wrap64 (x13_1 + 1)) a0_0 a0_1 a0_2 a0_3 a0_4 a0_5))) else (none)) = some r := by first | (rw [hji8] at H; exact H) | (simp only [hji8] at H ⊢; exact H)
      by_cases c9 : 0 ≤ (ji8)
      ·rw [if_pos c9] at H
       have c9b0 := eq_true c9
       have c9b1 : decide (0 ≤ (ji8)) = true := decide_eq_true c9
       clear c9
       obtain ⟨ji10, hji10⟩ : ∃ j_ : Int, (shr .u64 a3 (ji8)) = j_ := ⟨_, rfl⟩
       replace H : (if (Go.bits .and .u64 (ji10) 1) = 0 then ((impl_toy_HashChildren.f k1 a0_0 a0_1 a0_2 a0_3 a0_4 a0_5 x1_1 (rd_L1 l2 x13_1)).bind fun t187 => (proof_chainInner.l0 k1 t187 a3 l2 (l2.length : Int) (wrap64 (x13_1 + 1)) a0_0 a0_1 a0_2 a0_3 a0_4 a0_5)) else ((impl_toy_HashChildren.f k1 a0_0 a0_1 a0_2 a0_3 a0_4 a0_5 (rd_L1 l2 x13_1) x1_1).bind fun t190 => (proof_chainInner.l0 k1 t190 a3 l2 (l2.length : Int) (wrap64 (x13_1 + 1)) a0_0 a0_1 a0_2 a0_3 a0_4 a0_5))) = some r := by first | (rw [hji10] at H; exact H) | (simp only [hji10] at H ⊢; exact H)
       have hji10_ : (a3 / 2 ^ min (ji8).toNat 64) = ji10 := hji10
       have hji10z : (ji8) ≤ 64 → (a3 / 2 ^ (ji8).toNat) = ji10 := shr_small hji10
       by_cases c11 : (Go.bits .and .u64 (ji10) 1) = 0
       ·rw [if_pos c11] at H
        have c11b0 : ((Go.bits .and .u64 (ji10) 1) == 0) = true := beq_iff_eq.mpr c11
        have c11b1 : ((Go.bits .and .u64 (ji10) 1) != 0) = false := bne_eq_false_iff_eq.mpr c11
        clear c11
        replace H := Option.bind_eq_some_iff.mp H
        obtain ⟨t187, A120, H⟩ := H
        (try dsimp only at H)
        have A12 := zM A120
        clear A120
        have H' := zM H
        clear H
        have p186 : 0 ≤ (x13_1 : Int) := dA
        have q186 : x13_1 < (l2.length : Int) := dA
        obtain ⟨ad186, A186_0, c186_0, e186, hx186_0, hl186_0, hi186_0⟩ := at_L1 HR2.out x13_1 p186 q186
        cases e186
        replace hx186_0 := (HB.out.cell (World.block_lt_of_cell? w _ hx186_0)).trans hx186_0
        have HR186_0 := zM hi186_0
        have HC186_0 := zM hl186_0
        clear hi186_0 hl186_0
        replace p186 := eq_true p186
        replace q186 := eq_true q186
        obtain ⟨Ao13, co13, eo13⟩ := Kd.V_slice HO_1.out
        subst eo13
        go_wp2_with (first | ((with_reducible refine gate_invoke (m := "HashChildren") rfl ?_); refine invokesL_ (some 27) rfl rfl Tryd.func52 (by kernel_rfl) rfl 85 (.agg #[.int .i64 a0_0, .int .i64 a0_1, .int .i64 a0_2, .int .u64 a0_3, .int .u64 a0_4, .int .u64 a0_5]) #[.slice Ao13 x1_1.length co13, .slice A186_0 (rd_L1 l2 x13_1).length c186_0] #[.agg #[.int .i64 a0_0, .int .i64 a0_1, .int .i64 a0_2, .int .u64 a0_3, .int .u64 a0_4, .int .u64 a0_5], .slice Ao13 x1_1.length co13, .slice A186_0 (rd_L1 l2 x13_1).length c186_0] rfl rfl (by first | rfl | (simp only [Act.eval]; rfl)) aV (fun _ => by kernel_rfl) ?_; (with_reducible refine (impl_toy_HashChildren.calls k1 a0_0 a0_1 a0_2 a0_3 a0_4 a0_5 _ _ x1_1 _ _ (rd_L1 l2 x13_1) t187 _ ?side1 ?side2 ?side3 ?side4 A12.out).mono ?_); (case side1 => repeat (first | exact (Kd.V_reads' HO_1.out).2.2 | (with_reducible refine Kd.C_alloc ?_ _) | (with_reducible refine Kd.C_drewN ?_ _) | (with_reducible refine Kd.C_drew ?_))); (case side2 => exact (Kd.V_reads' HO_1.out).2.1); (case side3 => repeat (first | exact (Kd.C_below HR186_0.out HB.out) | (with_reducible refine Kd.C_alloc ?_ _) | (with_reducible refine Kd.C_drewN ?_ _) | (with_reducible refine Kd.C_drew ?_))); (case side4 => exact HC186_0.out); rintro e w14 ⟨v188, rfl, ho0, hb⟩; refine ⟨_, rfl, ?_⟩; replace HO_1 := zM (Kd.V_elder' (kV HO_1.out) (Kd.R_base ho0) hb); have HO189 := zM (Kd.R_lower (Kd.R_newM (M := fun k_ => (w.heap.size ≤ k_)) ho0 (below_size bB) (fun k_ h_ => h_)) (below_size bB)); replace HB := zM (below_step bB hb)))
        go_roundg k1
        case measure => have := HK1.out; omega
        case rel => exact ⟨(t187), (wrap64 (x13_1 + 1)), sR, H', ⟨by have := HK1.out; omega⟩, ⟨Kd.V_mono (Kd.R_V (by refine vR ?_; exact Kd.R_mono HO189.out (fun _ hk => hk.1))) (fun k_ hk => by first | exact ⟨(.inr (hk.1)), hk.2⟩ | exact (.inr (hk)))⟩, ⟨bB⟩⟩
       ·rw [if_neg c11] at H
        have c11b0 : ((Go.bits .and .u64 (ji10) 1) == 0) = false := beq_eq_false_iff_ne.mpr c11
        have c11b1 : ((Go.bits .and .u64 (ji10) 1) != 0) = true := bne_iff_ne.mpr c11
        replace H := Option.bind_eq_some_iff.mp H
        obtain ⟨t190, A150, H⟩ := H
        (try dsimp only at H)
        have A15 := zM A150
        clear A150
        have H' := zM H
        clear H
        have p186 : 0 ≤ (x13_1 : Int) := dA
        have q186 : x13_1 < (l2.length : Int) := dA
        obtain ⟨ad186, A186_0, c186_0, e186, hx186_0, hl186_0, hi186_0⟩ := at_L1 HR2.out x13_1 p186 q186
        cases e186
        replace hx186_0 := (HB.out.cell (World.block_lt_of_cell? w _ hx186_0)).trans hx186_0
        have HR186_0 := zM hi186_0
        have HC186_0 := zM hl186_0
        clear hi186_0 hl186_0
        replace p186 := eq_true p186
        replace q186 := eq_true q186
        obtain ⟨Ao16, co16, eo16⟩ := Kd.V_slice HO_1.out
        subst eo16
        go_wp2_with (first | ((with_reducible refine gate_invoke (m := "HashChildren") rfl ?_); refine invokesL_ (some 31) rfl rfl Tryd.func52 (by kernel_rfl) rfl 85 (.agg #[.int .i64 a0_0, .int .i64 a0_1, .int .i64 a0_2, .int .u64 a0_3, .int .u64 a0_4, .int .u64 a0_5]) #[.slice A186_0 (rd_L1 l2 x13_1).length c186_0, .slice Ao16 x1_1.length co16] #[.agg #[.int .i64 a0_0, .int .i64 a0_1, .int .i64 a0_2, .int .u64 a0_3, .int .u64 a0_4, .int .u64 a0_5], .slice A186_0 (rd_L1 l2 x13_1).length c186_0, .slice Ao16 x1_1.length co16] rfl rfl (by first | rfl | (simp only [Act.eval]; rfl)) aV (fun _ => by kernel_rfl) ?_; (with_reducible refine (impl_toy_HashChildren.calls k1 a0_0 a0_1 a0_2 a0_3 a0_4 a0_5 _ _ (rd_L1 l2 x13_1) _ _ x1_1 t190 _ ?side1 ?side2 ?side3 ?side4 A15.out).mono ?_); (case side1 => repeat (first | exact (Kd.C_below HR186_0.out HB.out) | (with_reducible refine Kd.C_alloc ?_ _) | (with_reducible refine Kd.C_drewN ?_ _) | (with_reducible refine Kd.C_drew ?_))); (case side2 => exact HC186_0.out); (case side3 => repeat (first | exact (Kd.V_reads' HO_1.out).2.2 | (with_reducible refine Kd.C_alloc ?_ _) | (with_reducible refine Kd.C_drewN ?_ _) | (with_reducible refine Kd.C_drew ?_))); (case side4 => exact (Kd.V_reads' HO_1.out).2.1); rintro e w17 ⟨v191, rfl, ho0, hb⟩; refine ⟨_, rfl, ?_⟩; replace HO_1 := zM (Kd.V_elder' (kV HO_1.out) (Kd.R_base ho0) hb); have HO192 := zM (Kd.R_lower (Kd.R_newM (M := fun k_ => (w.heap.size ≤ k_)) ho0 (below_size bB) (fun k_ h_ => h_)) (below_size bB)); replace HB := zM (below_step bB hb)))
        go_roundg k1
        case measure => have := HK1.out; omega
        case rel => exact ⟨(t190), (wrap64 (x13_1 + 1)), sR, H', ⟨by have := HK1.out; omega⟩, ⟨Kd.V_mono (Kd.R_V (by refine vR ?_; exact Kd.R_mono HO192.out (fun _ hk => hk.1))) (fun k_ hk => by first | exact ⟨(.inr (hk.1)), hk.2⟩ | exact (.inr (hk)))⟩, ⟨bB⟩⟩
      ·rw [if_neg c9] at H
       exact absurd H (by simp)
     ·rw [if_neg c7] at H
      exact absurd H (by simp)
    ·rw [if_neg c6] at H
     exact absurd H (by simp)
   ·rw [if_neg c5] at H
    have c5b0 : decide (x13_1 < (l2.length : Int)) = false := decide_eq_false c5
    clear c5
    obtain rfl := Option.some.inj H
    go_wp2
    go_ret
    exact ⟨_, by first | rfl | (simp [errW_none, errW_some] <;> rfl) | (simp [*, errW_none, errW_some] <;> rfl), by refine vV ?_; exact HO_1.out, bB⟩
def impl_toy_Size.f (a0_0 : Int) (a0_1 : Int) (a0_2 : Int) (a0_3 : Int) (a0_4 : Int) (a0_5 : Int) : Option (Int) := some a0_1
set_option maxHeartbeats 8000000 in
set_option maxRecDepth 100000 in
theorem impl_toy_Size.calls (a0_0 : Int) (a0_1 : Int) (a0_2 : Int) (a0_3 : Int) (a0_4 : Int) (a0_5 : Int) (r : Int) (w : World) (h : impl_toy_Size.f a0_0 a0_1 a0_2 a0_3 a0_4 a0_5 = some r) :
  Calls Tryd.prog 138 #[.agg #[.int .i64 a0_0, .int .i64 a0_1, .int .i64 a0_2, .int .u64 a0_3, .int .u64 a0_4, .int .u64 a0_5]] w fun e w' => e = .returned (.int .i64 r) ∧ Below w.heap.size w w' := by
 have hu85 := Tryd.underlying85
 have HB := zM (Below.refl w.heap.size w)
 have H : (some a0_1) = some r := h
 clear h
 obtain rfl := Option.some.inj H
 go_enter Tryd.func138, Tryd.ntmps138
 go_wp2_with (first | ((with_reducible refine gate_dst (N := 1) rfl ?_); refine bx 1 #[.int .i64 a0_0, .int .i64 a0_1, .int .i64 a0_2, .int .u64 a0_3, .int .u64 a0_4, .int .u64 a0_5] 85 ?_; intro gb193 hg w2 hbox hb; have BK193 := zM (hbox); have GW193 := zM ((gB hg : w.heap.size ≤ gb193)); have GE193 := zM ((gB hg : w.heap.size ≤ gb193)); replace HB := zM (below_step bB hb); clear hb hbox hg; obtain ⟨hcz3_0, hcz3_1, hcz3_2, hcz3_3, hcz3_4, hcz3_5⟩ := h6 BK193; obtain ⟨hfz3_0, hfz3_1, hfz3_2, hfz3_3, hfz3_4, hfz3_5⟩ := f6 BK193))
 go_ret
 exact ⟨by first | rfl | (simp [errW_none, errW_some] <;> rfl) | (simp [*, errW_none, errW_some] <;> rfl), bB⟩
def proof_RootFromInclusionProof.f (k : Nat) (a0_0 : Int) (a0_1 : Int) (a0_2 : Int) (a0_3 : Int) (a0_4 : Int) (a0_5 : Int) (a1 : Int) (a2 : Int) (l3 : List Int) (l4 : List (List Int)) : Option (List Int × Option Int) := if a1 ≥ a2 then none else ((impl_toy_Size.f a0_0 a0_1 a0_2 a0_3 a0_4 a0_5).bind fun t195 => (if (l3.length : Int) = t195 then ((proof_decompInclProof.f a1 a2).bind fun bt197 => (if (l4.length : Int) = (wrap64 (bt197.1 + bt197.2)) then (if 0 ≤ bt197.1 then (if bt197.1 ≤ (l4.length : Int) then ((proof_chainInner.f k a0_0 a0_1 a0_2 a0_3 a0_4 a0_5 l3 (l4.take (bt197.1 : Int).toNat) a1).bind fun t203 => ((proof_chainBorderRight.f k a0_0 a0_1 a0_2 a0_3 a0_4 a0_5 t203 (l4.drop (bt197.1 : Int).toNat)).bind fun t210 => (some (t210, none)))) else (none)) else (none)) else none)) else none))
set_option maxHeartbeats 8000000 in
set_option maxRecDepth 100000 in
theorem proof_RootFromInclusionProof.calls (k : Nat) (a0_0 : Int) (a0_1 : Int) (a0_2 : Int) (a0_3 : Int) (a0_4 : Int) (a0_5 : Int) (a1 : Int) (a2 : Int) (P3_ : Nat → Prop) (A3 : Option Addr) (c3 : Nat) (l3 : List Int) (A4 : Option Addr) (c4 : Nat) (l4 : List (List Int)) (r1 : List Int) (r2 : Option Int) (w : World) (hs3 : Kd.V (Kd.int .u8) 5 w w.heap.size (fun k_ => P3_ k_) (.slice A3 l3.length c3) l3) (hr4 : Kd.C (Kd.slice 5 (Kd.int .u8)) w A4 l4.length l4) (hc4 : l4.length ≤ c4) (h : proof_RootFromInclusionProof.f k a0_0 a0_1 a0_2 a0_3 a0_4 a0_5 a1 a2 l3 l4 = some (r1, r2)) :
  Calls Tryd.prog 100 #[.iface 85 (.agg #[.int .i64 a0_0, .int .i64 a0_1, .int .i64 a0_2, .int .u64 a0_3, .int .u64 a0_4, .int .u64 a0_5]), .int .u64 a1, .int .u64 a2, .slice A3 l3.length c3, .slice A4 l4.length c4] w fun e w' => ∃ (T_ : Int → TypeId) (X_ : Int → Value), ∃ v0_ : Value, e = .returned (.tuple #[v0_, errW T_ X_ r2]) ∧ Kd.V (Kd.int .u8) 5 w' w.heap.size (fun k_ => (P3_ k_ ∨ w.heap.size ≤ k_)) v0_ r1 ∧ Below w.heap.size w w' := by
 have HO3 := zM (show Kd.V (Kd.int .u8) 5 w w.heap.size (fun k_ => (P3_ k_ ∨ w.heap.size ≤ k_)) (.slice A3 l3.length c3) l3 from Kd.V_mono hs3 (fun k_ hk => .inl hk))
 have HR4 := zM hr4
 have HC4 := zM hc4
 clear hr4 hc4
 have HB := zM (Below.refl w.heap.size w)
 have H : (if a1 ≥ a2 then none else ((impl_toy_Size.f a0_0 a0_1 a0_2 a0_3 a0_4 a0_5).bind fun t195 => (if (l3.length : Int) = t195 then ((proof_decompInclProof.f a1 a2).bind fun bt197 => (if (l4.length : Int) = (wrap64 (bt197.1 + bt197.2)) then (if 0 ≤ bt197.1 then (if bt197.1 ≤ (l4.length : Int) then ((proof_chainInner.f k a0_0 a0_1 a0_2 a0_3 a0_4 a0_5 l3 (l4.take (bt197.1 : Int).toNat) a1).bind fun t203 => ((proof_chainBorderRight.f k a0_0 a0_1 a0_2 a0_3 a0_4 a0_5 t203 (l4.drop (bt197.1 : Int).toNat)).bind fun t210 => (some (t210, none)))) else (none)) else (none)) else none)) else none))) = some (r1, r2) := h
 clear h
 by_cases c6 : a1 ≥ a2
 ·rw [if_pos c6] at H
  cases H
 ·rw [if_neg c6] at H
  have c6b0 : decide (a2 ≤ a1) = false := decide_eq_false c6
  clear c6
  replace H := Option.bind_eq_some_iff.mp H
  obtain ⟨t195, A90, H⟩ := H
  (try dsimp only at H)
  have A9 := zM A90
  clear A90
  by_cases c10 : (l3.length : Int) = t195
  ·rw [if_pos c10] at H
   have c10b0 : ((l3.length : Int) == t195) = true := beq_iff_eq.mpr c10
   have c10b1 : ((l3.length : Int) != t195) = false := bne_eq_false_iff_eq.mpr c10
   clear c10
   replace H := Option.bind_eq_some_iff.mp H
   obtain ⟨⟨t197, t198⟩, A110, H⟩ := H
   (try dsimp only at H)
   have A11 := zM A110
   clear A110
   by_cases c12 : (l4.length : Int) = (wrap64 (t197 + t198))
   ·rw [if_pos c12] at H
    have c12b0 : ((l4.length : Int) == (wrap64 (t197 + t198))) = true := beq_iff_eq.mpr c12
    have c12b1 : ((l4.length : Int) != (wrap64 (t197 + t198))) = false := bne_eq_false_iff_eq.mpr c12
    clear c12
    by_cases c13 : 0 ≤ t197
    ·rw [if_pos c13] at H
     have c13b0 := eq_true c13
     have c13b1 : decide (0 ≤ t197) = true := decide_eq_true c13
     clear c13
     by_cases c14 : t197 ≤ (l4.length : Int)
     ·rw [if_pos c14] at H
      have c14b0 := eq_true c14
      have c14b1 : decide (t197 ≤ (l4.length : Int)) = true := decide_eq_true c14
      clear c14
      obtain ⟨y199, hy199⟩ : ∃ y_ : List (List Int), y_ = (l4.take (t197 : Int).toNat) := ⟨_, rfl⟩
      replace H : ((proof_chainInner.f k a0_0 a0_1 a0_2 a0_3 a0_4 a0_5 l3 y199 a1).bind fun t203 => ((proof_chainBorderRight.f k a0_0 a0_1 a0_2 a0_3 a0_4 a0_5 t203 (l4.drop (t197 : Int).toNat)).bind fun t210 => (some (t210, none)))) = some (r1, r2) := by first | (rw [hy199]; with_reducible exact H) | (have H := (Option.bind_some _ _).symm.trans H; first | (rw [hy199]; with_reducible exact H) | with_reducible exact H) | (rw [hy199]; exact H) | exact H
      have Ny199 := zM hy199
      clear hy199
      replace H := Option.bind_eq_some_iff.mp H
      obtain ⟨t203, A150, H⟩ := H
      (try dsimp only at H)
      have A15 := zM A150
      clear A150
      have c16b0 := eq_true (dA : 0 ≤ t197)
      have c17b0 := eq_true (dA : t197 ≤ (l4.length : Int))
      obtain ⟨y206, hy206⟩ : ∃ y_ : List (List Int), y_ = (l4.drop (t197 : Int).toNat) := ⟨_, rfl⟩
      replace H : ((proof_chainBorderRight.f k a0_0 a0_1 a0_2 a0_3 a0_4 a0_5 t203 y206).bind fun t210 => (some (t210, none))) = some (r1, r2) := by first | (rw [hy206]; with_reducible exact H) | (have H := (Option.bind_some _ _).symm.trans H; first | (rw [hy206]; with_reducible exact H) | with_reducible exact H) | (rw [hy206]; exact H) | exact H
      have Ny206 := zM hy206
      clear hy206
      replace H := Option.bind_eq_some_iff.mp H
      obtain ⟨t210, A180, H⟩ := H
      (try dsimp only at H)
      have A18 := zM A180
      clear A180
      simp only [Option.some.injEq, Prod.mk.injEq] at H
      obtain ⟨rfl, rfl⟩ := H
      go_enter Tryd.func100, Tryd.ntmps100
      go_wp2_with (first | ((with_reducible refine gate_invoke (m := "Size") rfl ?_); refine invokesL_ (some 26) rfl rfl Tryd.func138 (by kernel_rfl) rfl 85 (.agg #[.int .i64 a0_0, .int .i64 a0_1, .int .i64 a0_2, .int .u64 a0_3, .int .u64 a0_4, .int .u64 a0_5]) #[] #[.agg #[.int .i64 a0_0, .int .i64 a0_1, .int .i64 a0_2, .int .u64 a0_3, .int .u64 a0_4, .int .u64 a0_5]] rfl rfl (by first | rfl | (simp only [Act.eval]; rfl)) aV (fun _ => by kernel_rfl) ?_; (with_reducible refine (impl_toy_Size.calls a0_0 a0_1 a0_2 a0_3 a0_4 a0_5 t195 _ A9.out).mono ?_); rintro e w19 ⟨rfl, hb⟩; refine ⟨_, rfl, ?_⟩; replace HO3 := zM (Kd.V_below (kV HO3.out) hb); replace HB := zM (below_step bB hb)) | ((with_reducible refine gate_callee (f := 82) rfl ?_); refine goesL_ (some 34) rfl rfl Tryd.func82 (by kernel_rfl) rfl #[.int .u64 a1, .int .u64 a2] rfl aV ?_; (with_reducible refine (proof_decompInclProof.calls a1 a2 t197 t198 _ A11.out).mono ?_); rintro e w' ⟨rfl, ⟨nd, rfl⟩⟩; refine ⟨_, rfl, ?_⟩; have q20 : (t197 : Int) ≤ ((l4.length : Int) : Int) := dA; obtain ⟨i020, hi020, _, hsz20, _⟩ := info_parts info27; have hroom20 : l4.length ≤ c4 := HC4.out; have hC20 : Kd.C (Kd.slice 5 (Kd.int .u8)) _ A4 l4.length l4 := HR4.out; have hcut20 := cut_to (P := Tryd.prog) 25 27 .i64 Tryd.underlying25 hi020 A4 l4.length c4 t197 dA q20 hroom20; have hr20 := Kd.C_take (m := (t197 : Int).toNat) hC20 (by omega); have hy20 : y199.length = (t197 : Int).toNat := (by rw [Ny199.out, List.length_take]; omega); rw [← Ny199.out] at hr20; rw [← hy20] at hcut20; have HR202 := zM hr20; have HC202 := zM (show y199.length ≤ c4 from by omega); clear hr20 hC20 hroom20 hi020 hsz20; have KY20 := zM hy20; clear hy20; replace q20 := eq_true q20) | ((with_reducible refine gate_callee (f := 86) rfl ?_); refine goesL_ (some 52) rfl rfl Tryd.func86 (by kernel_rfl) rfl #[.iface 85 (.agg #[.int .i64 a0_0, .int .i64 a0_1, .int .i64 a0_2, .int .u64 a0_3, .int .u64 a0_4, .int .u64 a0_5]), .slice A3 l3.length c3, .slice A4 y199.length c4, .int .u64 a1] rfl aV ?_; (with_reducible refine (proof_chainInner.calls k a0_0 a0_1 a0_2 a0_3 a0_4 a0_5 (fun k_ => (P3_ k_ ∨ w.heap.size ≤ k_)) _ _ l3 _ _ y199 a1 t203 _ ?side1 ?side2 ?side3 A15.out).mono ?_); (case side1 => first | exact HO3.out | exact Kd.V_mono HO3.out (fun k_ h_ => by simp only [and_assoc] at h_ ⊢; exact h_)); (case side2 => repeat (first | exact (Kd.C_below HR202.out bB) | (with_reducible refine Kd.C_alloc ?_ _) | (with_reducible refine Kd.C_drewN ?_ _) | (with_reducible refine Kd.C_drew ?_))); (case side3 => exact HC202.out); rintro e w21 ⟨v204, rfl, ho0, hb⟩; refine ⟨_, rfl, ?_⟩; replace HO3 := zM (Kd.V_below (kV HO3.out) hb); have HO205 := zM (Kd.V_lower (Kd.V_mono (ok' := fun k_ => (P3_ k_ ∨ w.heap.size ≤ k_)) ho0 (fun k_ hk_ => Or.elim hk_ (fun hs_ => hs_) (fun hn_ => (.inr (Nat.le_trans (below_size bB) hn_))))) (below_size bB)); replace HB := zM (below_step bB hb); have q22 : (t197 : Int) ≤ ((l4.length : Int) : Int) := dA; obtain ⟨i022, hi022, _, hsz22, _⟩ := info_parts info27; have hroom22 : l4.length ≤ c4 := HC4.out; have hC22 : Kd.C (Kd.slice 5 (Kd.int .u8)) _ A4 l4.length l4 := HR4.out; have q022 : (0 : Int) ≤ (t197 : Int) := dA; have hcut22 := cut_from (P := Tryd.prog) 25 27 .i64 Tryd.underlying25 hi022 1 hsz22 A4 l4.length c4 t197 q022 q22; have hr22 := Kd.C_drop (m := (t197 : Int).toNat) (c := c4) hC22 (by omega) hroom22; obtain ⟨A22, hA22⟩ : ∃ Aq_, Aq_ = (if c4 = (t197 : Int).toNat then A4 else (A4 : Option Addr).map (·.add ((t197 : Int).toNat * 1))) := ⟨_, rfl⟩; obtain ⟨c22, hc22⟩ : ∃ cq_, cq_ = c4 - (t197 : Int).toNat := ⟨_, rfl⟩; have hy22 : y206.length = l4.length - (t197 : Int).toNat := (by rw [Ny206.out, List.length_drop] <;> omega); rw [show (l4).drop (t197 : Int).toNat = y206 from Ny206.out.symm] at hr22; replace hr22 : Kd.C (Kd.slice 5 (Kd.int .u8)) _ A22 y206.length y206 := (by rw [hA22]; exact hr22); rw [← hy22, ← hA22, ← hc22] at hcut22; have HR209 := zM hr22; have HC209 := zM (show y206.length ≤ c22 from by rw [hy22, hc22]; exact Nat.sub_le_sub_right hroom22 _); clear hr22 hC22 hroom22 hi022 hsz22 hc22; have KY22 := zM hy22; have KA22 := zM hA22; clear hy22 hA22; replace q22 := eq_true q22; obtain ⟨Ao23, co23, eo23⟩ := Kd.V_slice HO205.out; subst eo23) | ((with_reducible refine gate_callee (f := 85) rfl ?_); refine goesL_ (some 58) rfl rfl Tryd.func85 (by kernel_rfl) rfl #[.iface 85 (.agg #[.int .i64 a0_0, .int .i64 a0_1, .int .i64 a0_2, .int .u64 a0_3, .int .u64 a0_4, .int .u64 a0_5]), .slice Ao23 t203.length co23, .slice A22 y206.length c22] rfl aV ?_; (with_reducible refine (proof_chainBorderRight.calls k a0_0 a0_1 a0_2 a0_3 a0_4 a0_5 (fun k_ => (P3_ k_ ∨ w.heap.size ≤ k_)) _ _ t203 _ _ y206 t210 _ ?side1 ?side2 ?side3 A18.out).mono ?_); (case side1 => first | exact HO205.out | exact Kd.V_mono HO205.out (fun k_ h_ => by simp only [and_assoc] at h_ ⊢; exact h_)); (case side2 => repeat (first | exact (Kd.C_below HR209.out HB.out) | (with_reducible refine Kd.C_alloc ?_ _) | (with_reducible refine Kd.C_drewN ?_ _) | (with_reducible refine Kd.C_drew ?_))); (case side3 => exact HC209.out); rintro e w24 ⟨v211, rfl, ho0, hb⟩; refine ⟨_, rfl, ?_⟩; replace HO3 := zM (Kd.V_below (kV HO3.out) hb); replace HO205 := zM (Kd.V_below (kV HO205.out) hb); have HO212 := zM (Kd.V_lower (Kd.V_mono (ok' := fun k_ => (P3_ k_ ∨ w.heap.size ≤ k_)) ho0 (fun k_ hk_ => Or.elim hk_ (fun hs_ => hs_) (fun hn_ => (.inr (Nat.le_trans (below_size bB) hn_))))) (below_size bB)); replace HB := zM (below_step bB hb)))
      go_ret2
      exact ⟨(fun _ => 0), (fun _ => .nilIface), _, by first | rfl | (simp [errW_none, errW_some] <;> rfl) | (simp [*, errW_none, errW_some] <;> rfl), by refine vV ?_; exact HO212.out, bB⟩
     ·rw [if_neg c14] at H
      exact absurd H (by simp)
    ·rw [if_neg c13] at H
     exact absurd H (by simp)
   ·rw [if_neg c12] at H
    cases H
  ·rw [if_neg c10] at H
   cases H
def spec_split.l0 : Nat → Int → Int → Option (Int)
 | 0, _, _ => none
 | k + 1, x0, x3 => if x3 < (IntKind.u64.wrap (x0 - x3)) then (spec_split.l0 k x0 (IntKind.u64.wrap (x3 * 2))) else (some x3)
def spec_split.f (k : Nat) (a0 : Int) : Option (Int) := spec_split.l0 k a0 1
set_option maxHeartbeats 8000000 in
set_option maxRecDepth 100000 in
theorem spec_split.calls (k : Nat) (a0 : Int) (r : Int) (w : World) (h : spec_split.f k a0 = some r) :
  Calls Tryd.prog 99 #[.int .u64 a0] w fun e w' => e = .returned (.int .u64 r) ∧ Drawn0 w w' := by
 have H : (spec_split.l0 k a0 1) = some r := h
 clear h
 have H' := zM H
 clear H
 go_enter Tryd.func99, Tryd.ntmps99
 go_wp2
 go_loopg [3] k (fun kq v3 w' => ∃ (x3_1 : Int), v3 = .int .u64 x3_1 ∧ Aside0 (spec_split.l0 kq a0 x3_1 = some r) ∧ Aside0 (kq ≤ k) ∧ Drawn0 w w')
 case atStart => exact ⟨(1), sR, H', ⟨Nat.le_refl _⟩, by repeat (first | exact Drawn0.refl _ | apply Drawn0.step)⟩
 case round =>
  clear H'
  obtain ⟨x3_1, rfl, HA, HK1, ⟨m1, rfl⟩⟩ := hrel
  cases gk with
  | zero => exact absurd HA.out (by simp [spec_split.l0])
  | succ k1 =>
   have H := HA.out
   clear HA
   simp only [spec_split.l0] at H
   by_cases c2 : x3_1 < (IntKind.u64.wrap (a0 - x3_1))
   ·rw [if_pos c2] at H
    have c2b0 : decide (x3_1 < (IntKind.u64.wrap (a0 - x3_1))) = true := decide_eq_true c2
    clear c2
    have H' := zM H
    clear H
    go_wp2
    go_roundg k1
    case measure => have := HK1.out; omega
    case rel => exact ⟨(IntKind.u64.wrap (x3_1 * 2)), sR, H', ⟨by have := HK1.out; omega⟩, by repeat (first | exact Drawn0.refl _ | apply Drawn0.step)⟩
   ·rw [if_neg c2] at H
    have c2b0 : decide (x3_1 < (IntKind.u64.wrap (a0 - x3_1))) = false := decide_eq_false c2
    clear c2
    obtain rfl := Option.some.inj H
    go_wp2
    go_ret
    exact ⟨by first | rfl | (simp; done) | (simp [*]; done), by repeat (first | exact Drawn0.refl _ | apply Drawn0.step)⟩
end Go.Proofs.YtkmdkmlgahfcpaaDoor.M
