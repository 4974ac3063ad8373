-- Written by a program of ours (wip/xp) out of the translation; Lean checks it.
import Derived.Test.YtkkkaegocinkeaaDoorProg
import Derived.Below
import Derived.Deep.Draws
import Derived.Deep.AppendLies
import Derived.Maps.AppendAt
import Derived.OwnWalk
import Derived.Laws.BytesArg
import Derived.Laws.MakeOwn
import Derived.Laws.OwnMore
import Derived.Deep.OwnRows
import Derived.Tactics
import Derived.Lib.ConvBytes
import Derived.Laws.Slices
import Derived.WalkKit
import Derived.KernelRfl
import Derived.RowKit3
import Derived.Deep.LoopGhost
import Derived.Deep.QuietTactic
import Derived.BigQuiet
import Derived.WideLaws
import Derived.Deep.DeepCutAuto
import Derived.Deep.CutBlock
import Derived.Deep.RegionHeld3
import Derived.Laws.Rows
import Derived.Lib.AppendStr
import Derived.ArgAppend
import Derived.Laws.IdiomCopy
import Derived.OrdersHeld
import Derived.Laws.BitsLemmas
import Derived.RowKit
import Derived.Test.YtkkkaegocinkeaaDoorShelf
import Derived.Test.YtkkkaegocinkeaaDoorTab
import Derived.Test.YtkkkaegocinkeaaDoorOnes
import Derived.Handy
import Derived.Deep.DrawnRows
import Derived.StillTailTactics
import Derived.Laws.Bits64b
import Derived.Deep.RegionLaw
import Derived.Test.YtkkkaegocinkeaaDoorWWords
import Derived.Test.YtkkkaegocinkeaaDoorSq
import Derived.Test.YtkkkaegocinkeaaDoorWLast
import Derived.Test.YtkkkaegocinkeaaDoorWTab
import Derived.Test.YtkkkaegocinkeaaDoorWQPut
import Derived.Test.YtkkkaegocinkeaaDoorWApart
import Derived.Test.YtkkkaegocinkeaaDoorWArr
import Derived.Test.YtkkkaegocinkeaaDoorWZeros
import Derived.Test.YtkkkaegocinkeaaDoorWFoot
import Derived.Test.YtkkkaegocinkeaaDoorWKept
import Derived.Test.YtkkkaegocinkeaaDoorWShare
import Derived.Test.YtkkkaegocinkeaaDoorWN
import Derived.Test.YtkkkaegocinkeaaDoorWEqStruct
import Derived.Test.YtkkkaegocinkeaaDoorWRepsOne
import Derived.Test.YtkkkaegocinkeaaDoorWGuard
import Derived.Test.YtkkkaegocinkeaaDoorWNEv
import Derived.Test.YtkkkaegocinkeaaDoorWMore
namespace Go.Proofs.YtkkkaegocinkeaaDoor.M
open Go.RowKit Go.Proofs.YtkkkaegocinkeaaDoorW.PrintWords Go.Proofs.YtkkkaegocinkeaaDoorW.PrintLast Go.Proofs.YtkkkaegocinkeaaDoorW.PrintMore
attribute [local go_sem] max2_int min2_int max_two min_two max_three min_three max_four min_four   -- for this text's walks alone
set_option linter.unusedVariables false
set_option linter.unusedSimpArgs false



def ptrOf : Value → Option Addr
 | .pointer p => p
 | _ => none
def errW (T : Int → TypeId) (X : Int → Value) : Option Int → Value
 | none => .nilIface
 | some c => .iface 83 (.pointer (ptrOf (X c)))
theorem errW_none (T : Int → TypeId) (X : Int → Value) : errW T X none = .nilIface := rfl
theorem errW_some (T : Int → TypeId) (X : Int → Value) (c : Int) : errW T X (some c) = .iface 83 (.pointer (ptrOf (X c))) := rfl

theorem info28 : (Tryd.prog.info? 28).map (fun i => (i.zero, i.size, i.bytes)) = some (some (.agg #[(.int .u64 0), (.int .u64 0)]), 2, 16) := by kernel_rfl
theorem info45 : (Tryd.prog.info? 45).map (fun i => (i.zero, i.size, i.bytes)) = some (some (.agg #[(.int .u64 0), (.int .u64 0)]), 2, 16) := by kernel_rfl
theorem info52 : (Tryd.prog.info? 52).map (fun i => (i.zero, i.size, i.bytes)) = some (some (.agg #[(.int .u64 0), (.int .u64 0)]), 2, 16) := by kernel_rfl
-- the values' own types
/-! #### struct type 52 -/
structure S52 where
 f0 : Int
 f1 : Int
def z52 : S52 := ⟨(0 : Int), (0 : Int)⟩
def k52 : Kd S52 := Kd.iso (Kd.pair (Kd.int .u64) (Kd.int .u64)) (fun x : S52 => (x.f0, x.f1))
theorem k52_open {w : World} {x : S52} {cs : List Value} (h : k52.K w x cs) : cs = [.int .u64 x.f0, .int .u64 x.f1] := by
 obtain ⟨_, _, rfl, rfl, rfl⟩ := h
 exact rfl
theorem k52_openM {w : World} {base : Nat} {ok : Nat → Prop} {x : S52} {cs : List Value} (h : k52.M w base ok x cs) : cs = [.int .u64 x.f0, .int .u64 x.f1] := by
 obtain ⟨_, _, rfl, rfl, rfl⟩ := h
 exact rfl
theorem k52_mk (w : World) (x : S52)  : k52.K w x [.int .u64 x.f0, .int .u64 x.f1] := ⟨[.int .u64 x.f0], [.int .u64 x.f1], rfl, rfl, rfl⟩
theorem k52_mkM (w : World) (base : Nat) (ok : Nat → Prop) (x : S52)  : k52.M w base ok x [.int .u64 x.f0, .int .u64 x.f1] := ⟨[.int .u64 x.f0], [.int .u64 x.f1], rfl, rfl, rfl⟩
def rd_T52 (xs : List S52) (i : Int) : S52 := xs.getD i.toNat z52
theorem at_T52 {w : World} {A : Option Addr} {n : Nat} {xs : List S52} (h : Kd.C k52 w A n xs) (i : Int) (h0 : 0 ≤ i) (h1 : i < n) : ∃ ad , A = some ad ∧ w.cell? (ad.add (i.toNat * 2)) = some (.int .u64 (rd_T52 xs i).f0) ∧ w.cell? ⟨(ad.add (i.toNat * 2)).block, (ad.add (i.toNat * 2)).off + 1, none⟩ = some (.int .u64 (rd_T52 xs i).f1) := by
 obtain ⟨ad, c, e, _, hK, hc0⟩ := Kd.C_get h z52 i h0 h1
 have hc : ∀ j u, c[j]? = some u → w.cell? (ad.add (i.toNat * 2 + j)) = some u := hc0
 obtain rfl := k52_open hK
 exact ⟨ad, e, hc 0 _ rfl, by rw [← add_field _ _ 1 (by omega)]; exact hc 1 _ rfl⟩

/-! #### struct type 28 -/
structure S28 where
 f0 : Int
 f1 : Int
def z28 : S28 := ⟨(0 : Int), (0 : Int)⟩
def k28 : Kd S28 := Kd.iso (Kd.pair (Kd.int .u64) (Kd.int .u64)) (fun x : S28 => (x.f0, x.f1))
theorem k28_open {w : World} {x : S28} {cs : List Value} (h : k28.K w x cs) : cs = [.int .u64 x.f0, .int .u64 x.f1] := by
 obtain ⟨_, _, rfl, rfl, rfl⟩ := h
 exact rfl
theorem k28_openM {w : World} {base : Nat} {ok : Nat → Prop} {x : S28} {cs : List Value} (h : k28.M w base ok x cs) : cs = [.int .u64 x.f0, .int .u64 x.f1] := by
 obtain ⟨_, _, rfl, rfl, rfl⟩ := h
 exact rfl
theorem k28_mk (w : World) (x : S28)  : k28.K w x [.int .u64 x.f0, .int .u64 x.f1] := ⟨[.int .u64 x.f0], [.int .u64 x.f1], rfl, rfl, rfl⟩
theorem k28_mkM (w : World) (base : Nat) (ok : Nat → Prop) (x : S28)  : k28.M w base ok x [.int .u64 x.f0, .int .u64 x.f1] := ⟨[.int .u64 x.f0], [.int .u64 x.f1], rfl, rfl, rfl⟩
def rd_T28 (xs : List S28) (i : Int) : S28 := xs.getD i.toNat z28
theorem at_T28 {w : World} {A : Option Addr} {n : Nat} {xs : List S28} (h : Kd.C k28 w A n xs) (i : Int) (h0 : 0 ≤ i) (h1 : i < n) : ∃ ad , A = some ad ∧ w.cell? (ad.add (i.toNat * 2)) = some (.int .u64 (rd_T28 xs i).f0) ∧ w.cell? ⟨(ad.add (i.toNat * 2)).block, (ad.add (i.toNat * 2)).off + 1, none⟩ = some (.int .u64 (rd_T28 xs i).f1) := by
 obtain ⟨ad, c, e, _, hK, hc0⟩ := Kd.C_get h z28 i h0 h1
 have hc : ∀ j u, c[j]? = some u → w.cell? (ad.add (i.toNat * 2 + j)) = some u := hc0
 obtain rfl := k28_open hK
 exact ⟨ad, e, hc 0 _ rfl, by rw [← add_field _ _ 1 (by omega)]; exact hc 1 _ rfl⟩

/-! #### struct type 45 -/
structure S45 where
 f0 : Int
 f1 : Int
def z45 : S45 := ⟨(0 : Int), (0 : Int)⟩
def k45 : Kd S45 := Kd.iso (Kd.pair (Kd.int .u64) (Kd.int .u64)) (fun x : S45 => (x.f0, x.f1))
theorem k45_open {w : World} {x : S45} {cs : List Value} (h : k45.K w x cs) : cs = [.int .u64 x.f0, .int .u64 x.f1] := by
 obtain ⟨_, _, rfl, rfl, rfl⟩ := h
 exact rfl
theorem k45_openM {w : World} {base : Nat} {ok : Nat → Prop} {x : S45} {cs : List Value} (h : k45.M w base ok x cs) : cs = [.int .u64 x.f0, .int .u64 x.f1] := by
 obtain ⟨_, _, rfl, rfl, rfl⟩ := h
 exact rfl
theorem k45_mk (w : World) (x : S45)  : k45.K w x [.int .u64 x.f0, .int .u64 x.f1] := ⟨[.int .u64 x.f0], [.int .u64 x.f1], rfl, rfl, rfl⟩
theorem k45_mkM (w : World) (base : Nat) (ok : Nat → Prop) (x : S45)  : k45.M w base ok x [.int .u64 x.f0, .int .u64 x.f1] := ⟨[.int .u64 x.f0], [.int .u64 x.f1], rfl, rfl, rfl⟩
def rd_T45 (xs : List S45) (i : Int) : S45 := xs.getD i.toNat z45
theorem at_T45 {w : World} {A : Option Addr} {n : Nat} {xs : List S45} (h : Kd.C k45 w A n xs) (i : Int) (h0 : 0 ≤ i) (h1 : i < n) : ∃ ad , A = some ad ∧ w.cell? (ad.add (i.toNat * 2)) = some (.int .u64 (rd_T45 xs i).f0) ∧ w.cell? ⟨(ad.add (i.toNat * 2)).block, (ad.add (i.toNat * 2)).off + 1, none⟩ = some (.int .u64 (rd_T45 xs i).f1) := by
 obtain ⟨ad, c, e, _, hK, hc0⟩ := Kd.C_get h z45 i h0 h1
 have hc : ∀ j u, c[j]? = some u → w.cell? (ad.add (i.toNat * 2 + j)) = some u := hc0
 obtain rfl := k45_open hK
 exact ⟨ad, e, hc 0 _ rfl, by rw [← add_field _ _ 1 (by omega)]; exact hc 1 _ rfl⟩


theorem eqA28 (d : Nat) (w : World) (x0 y0 : Int) (x1 y1 : Int) :
  (Op.equalIn (d + 2) 28 (.agg #[.int .u64 x0, .int .u64 x1]) (.agg #[.int .u64 y0, .int .u64 y1])).run Tryd.prog w = .ok (x0 == y0 && (x1 == y1)) w := by
 refine eqA_of Tryd.underlying28 (by kernel_rfl) ?_
 refine eqf_cons (by rfl) (by go_simp; rfl) (by go_simp; rfl) (by go_simp) ?_
 exact eqf_last (by rfl) (by go_simp; rfl) (by go_simp; rfl) (by go_simp)

/-! ### impl_fromNode: function 25 -/
def impl_fromNode.f (a0_0 : Int) (a0_1 : Int) : Option (Int × Int) := some (a0_0, a0_1)
set_option maxHeartbeats 8000000 in
set_option maxRecDepth 100000 in
theorem impl_fromNode.calls (a0_0 : Int) (a0_1 : Int) (r1 : Int) (r2 : Int) (w : World) (h : impl_fromNode.f a0_0 a0_1 = some (r1, r2)) :
  Calls Tryd.prog 25 #[.agg #[.int .u64 a0_0, .int .u64 a0_1]] w fun e w' => e = .returned (.agg #[.int .u64 r1, .int .u64 r2]) ∧ Below w.heap.size w w' := by
 have hu52 := Tryd.underlying52
 have hu28 := Tryd.underlying28
 have HB := Aside0.mk (Below.refl w.heap.size w)
 have H : (some (a0_0, a0_1)) = some (r1, r2) := h
 clear h
 simp only [Option.some.injEq, Prod.mk.injEq] at H
 obtain ⟨rfl, rfl⟩ := H
 go_enter Tryd.func25, Tryd.ntmps25
 go_wp2_with (first | ((with_reducible refine gate_dst (N := 1) rfl ?_); refine box_event ?hg (N := 1) ?hd (cs := #[.int .u64 a0_0, .int .u64 a0_1]) (t := 52) ?hr ?_; (case hd => rfl); (case hg => rfl); (case hr => first | (go_simp; done) | (go_simp; rfl)); intro gb101 hg w2 hbox hb; have n0_ := Aside0.mk (below_step bB hb); have n1_ := Aside0.mk (hbox); have n2_ := Aside0.mk ((by rw [hg]; exact (below_size bB) : w.heap.size ≤ gb101)); have n3_ := Aside0.mk ((by rw [hg]; exact (below_size bB) : w.heap.size ≤ gb101)); clear HB; have HB := n0_; have BK101 := n1_; have GW101 := n2_; have GE101 := n3_; clear n0_ n1_ n2_ n3_; clear hb hbox hg) | ((with_reducible refine gate_dst (N := 2) rfl ?_); refine box_event ?hg (N := 2) ?hd (cs := #[.int .u64 0, .int .u64 0]) (t := 28) ?hr ?_; (case hd => rfl); (case hg => rfl); (case hr => first | (go_simp; done) | (go_simp; rfl)); intro gb102 hg w3 hbox hb; have n0_ := Aside0.mk (blk_below (g := gb101) (o := .cells #[.int .u64 a0_0, .int .u64 a0_1] 52 (0, 0)) (kB BK101.out) hb); have n1_ := Aside0.mk (below_step bB hb); have n2_ := Aside0.mk (hbox); have n3_ := Aside0.mk ((by rw [hg]; exact (below_size bB) : w.heap.size ≤ gb102)); have n4_ := Aside0.mk ((by rw [hg]; exact (below_size bB) : w.heap.size ≤ gb102)); have n5_ := Aside0.mk ((by rw [hg]; exact Nat.ne_of_lt (blk_lt (g := gb101) (o := .cells #[.int .u64 a0_0, .int .u64 a0_1] 52 (0, 0)) (kB BK101.out)) : gb101 ≠ gb102)); have n6_ := Aside0.mk ((by rw [hg]; exact Nat.ne_of_gt (blk_lt (g := gb101) (o := .cells #[.int .u64 a0_0, .int .u64 a0_1] 52 (0, 0)) (kB BK101.out)) : gb102 ≠ gb101)); clear BK101; clear HB; have BK101 := n0_; have HB := n1_; have BK102 := n2_; have GW102 := n3_; have GE102 := n4_; have NB101_102 := n5_; have NB102_101 := n6_; clear n0_ n1_ n2_ n3_ n4_ n5_ n6_; clear hb hbox hg; have hnb4 := NB101_102.out; have hnc4 := NB102_101.out; have hcz5_0 : w3.cell? ⟨gb101, 0, none⟩ = some (.int .u64 a0_0) := (blk_cell BK101.out 0).trans rfl; have hcz5_1 : w3.cell? ⟨gb101, 1, none⟩ = some (.int .u64 a0_1) := (blk_cell BK101.out 1).trans rfl; have hfz5_0 := blk_frozen BK101.out 0; have hfz5_1 := blk_frozen BK101.out 1; have hcz6_0 : w3.cell? ⟨gb102, 0, none⟩ = some (.int .u64 0) := (blk_cell BK102.out 0).trans rfl; have hcz6_1 : w3.cell? ⟨gb102, 1, none⟩ = some (.int .u64 0) := (blk_cell BK102.out 1).trans rfl; have hfz6_0 := blk_frozen BK102.out 0; have hfz6_1 := blk_frozen BK102.out 1))
 refine bodyPost_ret (results_cell_row rfl _ _ gb102 28 #[.int .u64 a0_0, .int .u64 a0_1] (0, 0) _ rfl (by (with_reducible repeat (first | refine blk_drewN ?_ _ | refine blk_drew ?_ | refine blk_alloc ?_ _)); refine blk_put (cs := #[.int .u64 a0_0, .int .u64 0]) ?_ 1 _ rfl; (with_reducible repeat (first | refine blk_drewN ?_ _ | refine blk_drew ?_ | refine blk_alloc ?_ _)); refine blk_put (cs := #[.int .u64 0, .int .u64 0]) ?_ 0 _ rfl; (with_reducible repeat (first | refine blk_drewN ?_ _ | refine blk_drew ?_ | refine blk_alloc ?_ _)); exact BK102.out) Tryd.underlying28 rfl (by kernel_rfl)) rfl ?_
 exact ⟨by first | rfl | (simp [errW_none, errW_some] <;> rfl) | (simp [*, errW_none, errW_some] <;> rfl), bB⟩


/-! ### impl_fromNodes: function 22 -/
def impl_fromNodes.l0 : Nat → List (S28) → List (S52) → Int → Int → Option ((List (S28)))
 | 0, _, _, _, _ => none
 | k + 1, x3, x6, x7, x8 => if x8 < x7 then (if 0 ≤ x8 then (if x8 < (x6.length : Int) then ((impl_fromNode.f ((rd_T52 x6 x8).f0) ((rd_T52 x6 x8).f1)).bind fun bt105 => (if x3.length < 8796093022208 then (impl_fromNodes.l0 k (x3 ++ [(⟨bt105.1, bt105.2⟩ : S28)]) x6 x7 (wrap64 (x8 + 1))) else (none))) else (none)) else (none)) else (some x3)
def impl_fromNodes.f (k : Nat) (l0 : List (S52)) : Option ((List (S28))) := impl_fromNodes.l0 k ([] : List (S28)) l0 (l0.length : Int) 0
theorem impl_fromNodes.mono_l : ∀ k, (∀ y0 y1 y2 y3, LeO (impl_fromNodes.l0 k y0 y1 y2 y3) (impl_fromNodes.l0 (k + 1) y0 y1 y2 y3))
 | 0 => fun _ _ _ _ r h => by simp [impl_fromNodes.l0] at h
 | k + 1 => by
  have ih0 := impl_fromNodes.mono_l k
  ·intro y0 y1 y2 y3
   unfold impl_fromNodes.l0
   repeat' first
   | (with_reducible exact ih0 _ _ _ _)
   | (with_reducible exact LeO.refl _)
   | (with_reducible exact LeO.none _)
   | (with_reducible refine LeO.ite ?_ ?_)
   | (with_reducible refine LeO.bind ?_ (fun _ => ?_))
   | exact ih0 _ _ _ _
   | exact LeO.none _
   | refine LeO.ite ?_ ?_
   | refine LeO.bind ?_ (fun _ => ?_)
theorem impl_fromNodes.mono : ∀ a0 k, LeO (impl_fromNodes.f k a0) (impl_fromNodes.f (k + 1) a0) := by
 intro a0 k
 have ih0 := impl_fromNodes.mono_l k
 unfold impl_fromNodes.f
 repeat' first
   | (with_reducible exact ih0 _ _ _ _)
   | (with_reducible exact LeO.refl _)
   | (with_reducible exact LeO.none _)
   | (with_reducible refine LeO.ite ?_ ?_)
   | (with_reducible refine LeO.bind ?_ (fun _ => ?_))
   | exact ih0 _ _ _ _
   | exact LeO.none _
   | refine LeO.ite ?_ ?_
   | refine LeO.bind ?_ (fun _ => ?_)
set_option maxHeartbeats 8000000 in
set_option maxRecDepth 100000 in
theorem impl_fromNodes.calls (k : Nat) (A0 : Option Addr) (c0 : Nat) (l0 : List (S52)) (r : List (S28)) (w : World) (hr0 : Kd.C k52 w A0 l0.length l0) (hc0 : l0.length ≤ c0) (h : impl_fromNodes.f k l0 = some r) :
  Calls Tryd.prog 22 #[.slice A0 l0.length c0] w fun e w' => ∃ v0_ : Value, e = .returned (v0_) ∧ Kd.R k28 28 w' w.heap.size (fun _ => True) v0_ r ∧ Below w.heap.size w w' := by
 have hu52 := Tryd.underlying52
 have HR0 := Aside0.mk hr0
 have HC0 := Aside0.mk hc0
 clear hr0 hc0
 have HB := Aside0.mk (Below.refl w.heap.size w)
 have H : (impl_fromNodes.l0 k ([] : List (S28)) l0 (l0.length : Int) 0) = some r := h
 clear h
 have H' := Aside0.mk H
 clear H
 go_enter Tryd.func22, Tryd.ntmps22
 go_wp2
 go_loopg [3, 8] k (fun kq v3 v8 w' => ∃ (x3_1 : List (S28)) (x8_1 : Int), v8 = .int .i64 x8_1 ∧ Aside0 (impl_fromNodes.l0 kq x3_1 l0 (l0.length : Int) x8_1 = some r) ∧ Aside0 (kq ≤ k) ∧ Aside0 (Kd.R k28 28 w' w.heap.size (fun _ => True) v3 x3_1) ∧ Aside0 (Below w.heap.size w w'))
 case atStart => exact ⟨(([] : List (S28))), (0), (by first | rfl | (simp; done) | (simp [*]; done)), H', ⟨Nat.le_refl _⟩, ⟨by first | exact Kd.R_nil _ _ _ _ _ | exact Kd.N_nil _ _ _ _ _ | exact Kd.V_nil _ _ _ _ _ | exact Kd.Q_nil _ _ _ _ _ | exact Kd.S_nil _ _ _ _ _⟩, ⟨bB⟩⟩
 case round =>
  clear H'
  obtain ⟨x3_1, x8_1, rfl, HA, HK1, HO_3, HB⟩ := hrel
  cases gk with
  | zero => exact absurd HA.out (by simp [impl_fromNodes.l0])
  | succ k1 =>
   have H := HA.out
   clear HA
   simp only [impl_fromNodes.l0] at H
   by_cases c2 : x8_1 < (l0.length : Int)
   ·rw [if_pos c2] at H
    have c2b0 : decide (x8_1 < (l0.length : Int)) = true := decide_eq_true c2
    clear c2
    by_cases c3 : 0 ≤ x8_1
    ·rw [if_pos c3] at H
     have c3b0 : decide (0 ≤ x8_1) = true := decide_eq_true c3
     clear c3
     by_cases c4 : x8_1 < (l0.length : Int)
     ·rw [if_pos c4] at H
      have c4b0 : decide (x8_1 < (l0.length : Int)) = true := decide_eq_true c4
      clear c4
      replace H := Option.bind_eq_some_iff.mp H
      obtain ⟨⟨t105, t106⟩, A50, H⟩ := H
      replace H : (if x3_1.length < 8796093022208 then (impl_fromNodes.l0 k1 (x3_1 ++ [(⟨t105, t106⟩ : S28)]) l0 (l0.length : Int) (wrap64 (x8_1 + 1))) else (none)) = some r := H
      have A5 := Aside0.mk A50
      clear A50
      by_cases c6 : x3_1.length < 8796093022208
      ·rw [if_pos c6] at H
       have LMc6 := Aside0.mk c6
       clear c6
       obtain ⟨y107, hy107⟩ : ∃ y_ : List (S28), y_ = (x3_1 ++ [(⟨t105, t106⟩ : S28)]) := ⟨_, rfl⟩
       replace H : (impl_fromNodes.l0 k1 y107 l0 (l0.length : Int) (wrap64 (x8_1 + 1))) = some r := by first | (rw [hy107]; with_reducible exact H) | (have H2_ := (Option.bind_some _ _).symm.trans H; rw [hy107]; with_reducible exact H2_) | (have H2_ := (Option.bind_some _ _).symm.trans H; with_reducible exact H2_) | with_reducible exact H | (rw [hy107]; exact H) | exact H
       have Ny107 := Aside0.mk hy107
       clear hy107
       have H' := Aside0.mk H
       clear H
       have p103 : 0 ≤ (x8_1 : Int) := dA
       have q103 : x8_1 < (l0.length : Int) := dA
       obtain ⟨ad103, e103, hx103_0, hx103_1⟩ := at_T52 HR0.out x8_1 p103 q103
       cases e103
       replace hx103_0 := (HB.out.cell (World.block_lt_of_cell? w _ hx103_0)).trans hx103_0
       replace hx103_1 := (HB.out.cell (World.block_lt_of_cell? w _ hx103_1)).trans hx103_1
       replace p103 := eq_true p103
       replace q103 := eq_true q103
       go_wp2_with (first | ((with_reducible refine gate_dst (N := 5) rfl ?_); refine box_event ?hg (N := 5) ?hd (cs := #[.int .u64 0, .int .u64 0]) (t := 52) ?hr ?_; (case hd => rfl); (case hg => rfl); (case hr => first | (go_simp; done) | (go_simp; rfl)); intro gb104 hg w7 hbox hb; have n0_ := Aside0.mk (Kd.R_below (kR HO_3.out) hb); have n1_ := Aside0.mk (below_step bB hb); have n2_ := Aside0.mk (hbox); have n3_ := Aside0.mk ((by rw [hg]; exact (below_size bB) : w.heap.size ≤ gb104)); have n4_ := Aside0.mk ((by rw [hg]; exact (below_size bB) : w.heap.size ≤ gb104)); clear HO_3; clear HB; have HO_3 := n0_; have HB := n1_; have BK104 := n2_; have GW104 := n3_; have GE104 := n4_; clear n0_ n1_ n2_ n3_ n4_; clear hb hbox hg; have hcz8_0 : w7.cell? ⟨gb104, 0, none⟩ = some (.int .u64 0) := (blk_cell BK104.out 0).trans rfl; have hcz8_1 : w7.cell? ⟨gb104, 1, none⟩ = some (.int .u64 0) := (blk_cell BK104.out 1).trans rfl; have hfz8_0 := blk_frozen BK104.out 0; have hfz8_1 := blk_frozen BK104.out 1) | ((with_reducible refine gate_callee (f := 25) rfl ?_); refine goesL_ (some 14) rfl rfl Tryd.func25 (by kernel_rfl) rfl #[.agg #[.int .u64 ((rd_T52 l0 x8_1).f0), .int .u64 ((rd_T52 l0 x8_1).f1)]] rfl aV ?_; (with_reducible refine (impl_fromNode.calls ((rd_T52 l0 x8_1).f0) ((rd_T52 l0 x8_1).f1) t105 t106 _ A5.out).mono ?_); rintro e w9 ⟨rfl, hb⟩; refine ⟨_, rfl, ?_⟩; have n0_ := Aside0.mk (Kd.R_below (by (with_reducible repeat (first | apply Kd.R_alloc | apply Kd.R_drewN | apply Kd.R_drew)); exact (Kd.R_mono (Kd.R_far (p := ⟨gb104, 1, none⟩) (Kd.R_far (p := ⟨gb104, 0, none⟩) (Kd.R_types HO_3.out BK104.out (by decide)) (fun _ hk => hk.2) (.int .u64 ((rd_T52 l0 x8_1).f0))) (fun _ hk => hk.2) (.int .u64 ((rd_T52 l0 x8_1).f1))) (fun _ h_ => h_.1))) hb); have n1_ := Aside0.mk (blk_below (g := gb104) (o := .cells #[.int .u64 ((rd_T52 l0 x8_1).f0), .int .u64 ((rd_T52 l0 x8_1).f1)] 52 (0, 0)) (by (with_reducible repeat (first | refine blk_drewN ?_ _ | refine blk_drew ?_ | refine blk_alloc ?_ _)); refine blk_put (cs := #[.int .u64 ((rd_T52 l0 x8_1).f0), .int .u64 0]) ?_ 1 _ rfl; (with_reducible repeat (first | refine blk_drewN ?_ _ | refine blk_drew ?_ | refine blk_alloc ?_ _)); refine blk_put (cs := #[.int .u64 0, .int .u64 0]) ?_ 0 _ rfl; (with_reducible repeat (first | refine blk_drewN ?_ _ | refine blk_drew ?_ | refine blk_alloc ?_ _)); exact BK104.out) hb); have n2_ := Aside0.mk (below_step bB hb); clear HO_3; clear BK104; clear HB; have HO_3 := n0_; have BK104 := n1_; have HB := n2_; clear n0_ n1_ n2_; (try clear hb); (try clear hb2); (try clear hk); (try clear hi)) | ((with_reducible refine gate_builtin (b := .append) (xs := #[.tmp 12, .tmp 15]) rfl ?_); at_builtin; refine Kd.R_append k28 (w0 := w) w.heap.size rfl (.tmp 12) (.tmp 15) 24 28 (.agg #[(.int .u64 0), (.int .u64 0)]) 16 rfl Tryd.underlying24 info28 rfl (by decide) (by omega) u3 x3_1 (⟨t105, t106⟩ : S28) [.int .u64 t105, .int .u64 t106] (fun _ => True) (fun _ => False) rfl rfl ?aP (fun _ hk => hk.elim) ?aF ?aO ?aB ?aS ?aL ?_; (case aP => exact k28_mkM _ _ _ (⟨t105, t106⟩ : S28)); (case aB => exact bB); (case aF => exact (fun _ _ => trivial)); (case aO => exact (kR HO_3.out)); (case aS => exact (below_size bB)); (case aL => have := LMc6.out; omega); intro v108 w10 ho hb hg hat; rw [← Ny107.out] at ho; have n0_ := Aside0.mk (blk_grown (g := gb104) (o := .cells #[.int .u64 ((rd_T52 l0 x8_1).f0), .int .u64 ((rd_T52 l0 x8_1).f1)] 52 (0, 0)) (kB BK104.out) hg (Kd.R_ne HO_3.out BK104.out (by decide))); have n1_ := Aside0.mk (hb); have n2_ := Aside0.mk (ho); clear BK104; clear HB; clear HO_3; have BK104 := n0_; have HB := n1_; have HO109 := n2_; clear n0_ n1_ n2_; clear ho hb hg hat))
       go_roundg k1
       case measure => have := HK1.out; omega
       case rel => exact ⟨(y107), (wrap64 (x8_1 + 1)), (by first | rfl | (simp; done) | (simp [*]; done)), H', ⟨by have := HK1.out; omega⟩, ⟨kR HO109.out⟩, ⟨bB⟩⟩
      ·rw [if_neg c6] at H
       exact absurd H (by simp)
     ·rw [if_neg c4] at H
      exact absurd H (by simp)
    ·rw [if_neg c3] at H
     exact absurd H (by simp)
   ·rw [if_neg c2] at H
    have c2b0 : decide (x8_1 < (l0.length : Int)) = false := decide_eq_false c2
    clear c2
    obtain rfl := Option.some.inj H
    go_wp2
    go_ret
    exact ⟨_, by first | rfl | (simp [errW_none, errW_some] <;> rfl) | (simp [*, errW_none, errW_some] <;> rfl), by (with_reducible repeat (first | apply Kd.R_alloc | apply Kd.R_drewN | apply Kd.R_drew)); exact HO_3.out, bB⟩


/-! ### proof_Nodes_Ephem: function 39 -/
def proof_Nodes_Ephem.f (l0_0 : List (S52)) (a0_1 : Int) (a0_2 : Int) (a0_3 : Int) (a0_4 : Int) : Option (Int × Int × Int × Int) := some (a0_3, a0_4, a0_1, a0_2)
def proof_Nodes_Ephem.T1 : Bool × List (List Nat × List Nat) := (true, [([], []), ([0], [0]), ([], []), ([2], [2]), ([], []), ([4], [4]), ([1, 0, 1], [1]), ([3, 6, 0, 1, 2, 3, 6], [3]), ([5, 7, 0, 1, 2, 3, 4, 5, 6, 7], [5])])
def proof_Nodes_Ephem.B1 : List Nat := [0, 1, 0, 4, 0, 16, 3, 79, 255]
theorem proof_Nodes_Ephem.tab1 : rtab .any (opsOf Tryd.f39 1) = proof_Nodes_Ephem.T1 := by kernel_rfl
theorem proof_Nodes_Ephem.bits1 : waitsOk proof_Nodes_Ephem.T1.2 proof_Nodes_Ephem.B1 = true := by kernel_rfl
set_option maxHeartbeats 8000000 in
set_option maxRecDepth 100000 in
theorem proof_Nodes_Ephem.calls (A0_0 : Option Addr) (c0_0 : Nat) (l0_0 : List (S52)) (a0_1 : Int) (a0_2 : Int) (a0_3 : Int) (a0_4 : Int) (r1 : Int) (r2 : Int) (r3 : Int) (r4 : Int) (w : World) (hr0_0 : Kd.C k52 w A0_0 l0_0.length l0_0) (hc0_0 : l0_0.length ≤ c0_0) (h : proof_Nodes_Ephem.f l0_0 a0_1 a0_2 a0_3 a0_4 = some (r1, r2, r3, r4)) :
  Calls Tryd.prog 39 #[.agg #[.slice A0_0 l0_0.length c0_0, .int .i64 a0_1, .int .i64 a0_2, .int .u64 a0_3, .int .u64 a0_4]] w fun e w' => e = .returned (.tuple #[.agg #[.int .u64 r1, .int .u64 r2], .int .i64 r3, .int .i64 r4]) ∧ Below w.heap.size w w' := by
 have hu61 := Tryd.underlying61
 have hu52 := Tryd.underlying52
 have HR0_0 := Aside0.mk hr0_0
 have HC0_0 := Aside0.mk hc0_0
 clear hr0_0 hc0_0
 have HB := Aside0.mk (Below.refl w.heap.size w)
 have H : (some (a0_3, a0_4, a0_1, a0_2)) = some (r1, r2, r3, r4) := h
 clear h
 simp only [Option.some.injEq, Prod.mk.injEq] at H
 obtain ⟨rfl, rfl, rfl, rfl⟩ := H
 go_enter Tryd.func39, Tryd.ntmps39
 try go_wp2_with (first | ((with_reducible refine gate_dst (N := 1) rfl ?_); refine box_event ?hg (N := 1) ?hd (cs := #[.slice A0_0 l0_0.length c0_0, .int .i64 a0_1, .int .i64 a0_2, .int .u64 a0_3, .int .u64 a0_4]) (t := 61) ?hr ?_; (case hd => rfl); (case hg => rfl); (case hr => first | (go_simp; done) | (go_simp; rfl)); intro gb110 hg w2 hbox hb; have n0_ := Aside0.mk (below_step bB hb); have n1_ := Aside0.mk (hbox); have n2_ := Aside0.mk ((by rw [hg]; exact (below_size bB) : w.heap.size ≤ gb110)); have n3_ := Aside0.mk ((by rw [hg]; exact (below_size bB) : w.heap.size ≤ gb110)); clear HB; have HB := n0_; have BK110 := n1_; have GW110 := n2_; have GE110 := n3_; clear n0_ n1_ n2_ n3_; clear hb hbox hg) | ((with_reducible refine gate_dst (N := 2) rfl ?_); refine box_event ?hg (N := 2) ?hd (cs := #[.int .u64 0, .int .u64 0]) (t := 52) ?hr ?_; (case hd => rfl); (case hg => rfl); (case hr => first | (go_simp; done) | (go_simp; rfl)); intro gb111 hg w3 hbox hb; have n0_ := Aside0.mk (blk_below (g := gb110) (o := .cells #[.slice A0_0 l0_0.length c0_0, .int .i64 a0_1, .int .i64 a0_2, .int .u64 a0_3, .int .u64 a0_4] 61 (0, 0)) (kB BK110.out) hb); have n1_ := Aside0.mk (below_step bB hb); have n2_ := Aside0.mk (hbox); have n3_ := Aside0.mk ((by rw [hg]; exact (below_size bB) : w.heap.size ≤ gb111)); have n4_ := Aside0.mk ((by rw [hg]; exact (below_size bB) : w.heap.size ≤ gb111)); have n5_ := Aside0.mk ((by rw [hg]; exact Nat.ne_of_lt (blk_lt (g := gb110) (o := .cells #[.slice A0_0 l0_0.length c0_0, .int .i64 a0_1, .int .i64 a0_2, .int .u64 a0_3, .int .u64 a0_4] 61 (0, 0)) (kB BK110.out)) : gb110 ≠ gb111)); have n6_ := Aside0.mk ((by rw [hg]; exact Nat.ne_of_gt (blk_lt (g := gb110) (o := .cells #[.slice A0_0 l0_0.length c0_0, .int .i64 a0_1, .int .i64 a0_2, .int .u64 a0_3, .int .u64 a0_4] 61 (0, 0)) (kB BK110.out)) : gb111 ≠ gb110)); clear BK110; clear HB; have BK110 := n0_; have HB := n1_; have BK111 := n2_; have GW111 := n3_; have GE111 := n4_; have NB110_111 := n5_; have NB111_110 := n6_; clear n0_ n1_ n2_ n3_ n4_ n5_ n6_; clear hb hbox hg))
 have n0_ := Aside0.mk (blk_drew BK110.out)
 have n1_ := Aside0.mk (blk_drew BK111.out)
 have n2_ := Aside0.mk (below_drew1 HB.out)
 clear BK110
 clear BK111
 clear HB
 have BK110 := n0_
 have BK111 := n1_
 have HB := n2_
 clear n0_ n1_ n2_
 refine start_ (n := 9) (S := fun w' => w'.cell? ⟨gb110, 0, none⟩ = some (.slice A0_0 l0_0.length c0_0) ∧ w'.cell? ⟨gb110, 1, none⟩ = some (.int .i64 a0_1) ∧ w'.cell? ⟨gb110, 2, none⟩ = some (.int .i64 a0_2) ∧ w'.cell? ⟨gb110, 3, none⟩ = some (.int .u64 a0_3) ∧ w'.cell? ⟨gb110, 4, none⟩ = some (.int .u64 a0_4)) (ds := []) #[false, false, false, false, false, false, false, false, false] (by kernel_rfl) rfl rfl ⟨(blk_cell BK110.out 0).trans rfl, (blk_cell BK110.out 1).trans rfl, (blk_cell BK110.out 2).trans rfl, (blk_cell BK110.out 3).trans rfl, (blk_cell BK110.out 4).trans rfl⟩ (fun hHeld => ?_); refine with_tabW proof_Nodes_Ephem.tab1 proof_Nodes_Ephem.bits1 (fun HT_ HW_ => ?_)
 generalize w3.drew = w4 at BK110 BK111 HB hHeld ⊢
 refine pure_ (i := 0) (N := some 5) (v := ?_) (a' := ?_) #[true, false, false, false, false, false, false, false, false] rfl rfl (any_of HT_.out (by kernel_rfl)) (fun _ _ _ h => h) (Or.inl ⟨by rfl, ?_⟩) ?_ ?_
 rotate_left
 ·intro w'
  go_simp
  with_reducible rfl
 rotate_left
 ·simp only [Act.put, List.setIfInBounds_toArray, List.set_cons_zero, List.set_cons_succ, i64_w, i32_w]
  rfl
 refine pure_ (i := 2) (N := some 7) (v := ?_) (a' := ?_) #[true, false, true, false, false, false, false, false, false] rfl rfl (any_of HT_.out (by kernel_rfl)) (fun _ _ _ h => h) (Or.inl ⟨by rfl, ?_⟩) ?_ ?_
 rotate_left
 ·intro w'
  go_simp
  with_reducible rfl
 rotate_left
 ·simp only [Act.put, List.setIfInBounds_toArray, List.set_cons_zero, List.set_cons_succ, i64_w, i32_w]
  rfl
 refine pure_ (i := 4) (N := some 9) (v := ?_) (a' := ?_) #[true, false, true, false, true, false, false, false, false] rfl rfl (any_of HT_.out (by kernel_rfl)) (fun _ _ _ h => h) (Or.inl ⟨by rfl, ?_⟩) ?_ ?_
 rotate_left
 ·intro w'
  go_simp
  with_reducible rfl
 rotate_left
 ·simp only [Act.put, List.setIfInBounds_toArray, List.set_cons_zero, List.set_cons_succ, i64_w, i32_w]
  rfl
 refine take_ (i := 1) (N := some 6) (v := ?_) (a' := ?_) #[true, true, true, false, true, false, false, false, false] rfl rfl (take_ofW HT_.out HW_.out (by kernel_rfl)) (fun _ _ _ h => h) (Or.inl ⟨by rfl, ?_⟩) hHeld ?_ ?_
 rotate_left
 ·rintro w' ⟨s0, s1, s2, s3, s4⟩
  go_simp
  with_reducible rfl
 rotate_left
 ·simp only [Act.put, List.setIfInBounds_toArray, List.set_cons_zero, List.set_cons_succ, i64_w, i32_w]
  rfl
 refine take_ (i := 3) (N := some 8) (v := ?_) (a' := ?_) #[true, true, true, true, true, false, false, false, false] rfl rfl (take_ofW HT_.out HW_.out (by kernel_rfl)) (fun _ _ _ h => h) (Or.inl ⟨by rfl, ?_⟩) hHeld ?_ ?_
 rotate_left
 ·rintro w' ⟨s0, s1, s2, s3, s4⟩
  go_simp
  with_reducible rfl
 rotate_left
 ·simp only [Act.put, List.setIfInBounds_toArray, List.set_cons_zero, List.set_cons_succ, i64_w, i32_w]
  rfl
 refine take_ (i := 5) (N := some 10) (v := ?_) (a' := ?_) #[true, true, true, true, true, true, false, false, false] rfl rfl (take_ofW HT_.out HW_.out (by kernel_rfl)) (fun _ _ _ h => h) (Or.inl ⟨by rfl, ?_⟩) hHeld ?_ ?_
 rotate_left
 ·rintro w' ⟨s0, s1, s2, s3, s4⟩
  go_simp
  with_reducible rfl
 rotate_left
 ·simp only [Act.put, List.setIfInBounds_toArray, List.set_cons_zero, List.set_cons_succ, i64_w, i32_w]
  rfl
 refine one_ (i := 6) (N := none) #[true, true, true, true, true, true, true, false, false] rfl rfl (one_of HT_.out (by kernel_rfl)) (by decide) (fun K hK => ?_)
 have hs5 : w4.cell? ⟨gb111, 0, none⟩ = some (.int .u64 0) := (blk_cell BK111.out 0).trans rfl
 have hfs5 := blk_frozen BK111.out 0
 have hns5_0 := NB110_111.out
 have hms5_0 := NB111_110.out
 have hs6 : w4.cell? ⟨gb111, 1, none⟩ = some (.int .u64 0) := (blk_cell BK111.out 1).trans rfl
 have hfs6 := blk_frozen BK111.out 1
 have hns6_0 := NB110_111.out
 have hms6_0 := NB111_110.out
 refine skip_ (w1 := ?_) (by rfl) rfl ?_ ?_
 rotate_left
 ·go_simp
  rfl
 refine hK.out _ _ ⟨((cell_far (p := ⟨gb111, _, none⟩) NB110_111.out _).trans (((cell_far (p := ⟨gb111, _, none⟩) NB110_111.out _).trans (hHeld.1)))), ((cell_far (p := ⟨gb111, _, none⟩) NB110_111.out _).trans (((cell_far (p := ⟨gb111, _, none⟩) NB110_111.out _).trans (hHeld.2.1)))), ((cell_far (p := ⟨gb111, _, none⟩) NB110_111.out _).trans (((cell_far (p := ⟨gb111, _, none⟩) NB110_111.out _).trans (hHeld.2.2.1)))), ((cell_far (p := ⟨gb111, _, none⟩) NB110_111.out _).trans (((cell_far (p := ⟨gb111, _, none⟩) NB110_111.out _).trans (hHeld.2.2.2.1)))), ((cell_far (p := ⟨gb111, _, none⟩) NB110_111.out _).trans (((cell_far (p := ⟨gb111, _, none⟩) NB110_111.out _).trans (hHeld.2.2.2.2))))⟩ (fun hHeld => ?_)
 clear hK K
 refine pure_ (i := 7) (N := some 3) (v := ?_) (a' := ?_) #[true, true, true, true, true, true, true, true, false] rfl rfl (any_of HT_.out (by kernel_rfl)) (fun _ _ _ h => h) (Or.inl ⟨by rfl, ?_⟩) ?_ ?_
 rotate_left
 ·intro w'
  go_simp
  with_reducible rfl
 rotate_left
 ·simp only [Act.put, List.setIfInBounds_toArray, List.set_cons_zero, List.set_cons_succ, i64_w, i32_w]
  rfl
 refine pure_ (i := 8) (N := some 4) (v := ?_) (a' := ?_) #[true, true, true, true, true, true, true, true, true] rfl rfl (any_of HT_.out (by kernel_rfl)) (fun _ _ _ h => h) (Or.inl ⟨by rfl, ?_⟩) ?_ ?_
 rotate_left
 ·intro w'
  go_simp
  with_reducible rfl
 rotate_left
 ·simp only [Act.put, List.setIfInBounds_toArray, List.set_cons_zero, List.set_cons_succ, i64_w, i32_w]
  rfl
 refine done_ (done_of HT_.out (by kernel_rfl)) ?_
 try go_wp2
 refine bodyPost_ret (results_ctt rfl _ _ gb111 52 #[.int .u64 a0_3, .int .u64 a0_4] (0, 0) _ rfl (by (with_reducible repeat (first | refine blk_drewN ?_ _ | refine blk_drew ?_ | refine blk_alloc ?_ _)); refine blk_put (cs := #[.int .u64 a0_3, .int .u64 0]) ?_ 1 _ rfl; (with_reducible repeat (first | refine blk_drewN ?_ _ | refine blk_drew ?_ | refine blk_alloc ?_ _)); refine blk_put (cs := #[.int .u64 0, .int .u64 0]) ?_ 0 _ rfl; (with_reducible repeat (first | refine blk_drewN ?_ _ | refine blk_drew ?_ | refine blk_alloc ?_ _)); exact BK111.out) Tryd.underlying52 rfl (by kernel_rfl)) rfl ?_
 exact ⟨by first | rfl | (simp [errW_none, errW_some] <;> rfl) | (simp [*, errW_none, errW_some] <;> rfl), bB⟩


/-! ### impl_fromProof: function 28 -/
def impl_fromProof.f (k : Nat) (l0_0 : List (S52)) (a0_1 : Int) (a0_2 : Int) (a0_3 : Int) (a0_4 : Int) : Option ((List (S28)) × Int × Int × Int × Int) := (proof_Nodes_Ephem.f l0_0 a0_1 a0_2 a0_3 a0_4).bind fun bt114 => ((impl_fromNodes.f k l0_0).bind fun t119 => ((impl_fromNode.f bt114.1 bt114.2.1).bind fun bt122 => (some (t119, bt122.1, bt122.2, bt114.2.2.1, bt114.2.2.2))))
theorem impl_fromProof.mono : ∀ a0 a1 a2 a3 a4 k, LeO (impl_fromProof.f k a0 a1 a2 a3 a4) (impl_fromProof.f (k + 1) a0 a1 a2 a3 a4) := by
 intro a0 a1 a2 a3 a4 k
 unfold impl_fromProof.f
 repeat' first
   | (with_reducible exact impl_fromNodes.mono _ _)
   | (with_reducible exact LeO.refl _)
   | (with_reducible exact LeO.none _)
   | (with_reducible refine LeO.ite ?_ ?_)
   | (with_reducible refine LeO.bind ?_ (fun _ => ?_))
   | exact impl_fromNodes.mono _ _
   | exact LeO.none _
   | refine LeO.ite ?_ ?_
   | refine LeO.bind ?_ (fun _ => ?_)
def impl_fromProof.T2 : Bool × List (List Nat × List Nat) := (true, [([], []), ([0], [0]), ([1], [1]), ([], []), ([3, 2], [3]), ([], []), ([], []), ([2, 4, 5, 6], [2, 4, 5, 6]), ([7, 4, 0, 1, 2, 3, 4, 5, 6, 7], [7])])
def impl_fromProof.B2 : List Nat := [0, 1, 3, 0, 15, 0, 0, 127, 255]
theorem impl_fromProof.tab2 : rtab .any (opsOf Tryd.f28 2) = impl_fromProof.T2 := by kernel_rfl
theorem impl_fromProof.bits2 : waitsOk impl_fromProof.T2.2 impl_fromProof.B2 = true := by kernel_rfl
set_option maxHeartbeats 8000000 in
set_option maxRecDepth 100000 in
theorem impl_fromProof.calls (k : Nat) (A0_0 : Option Addr) (c0_0 : Nat) (l0_0 : List (S52)) (a0_1 : Int) (a0_2 : Int) (a0_3 : Int) (a0_4 : Int) (r1 : List (S28)) (r2 : Int) (r3 : Int) (r4 : Int) (r5 : Int) (w : World) (hr0_0 : Kd.C k52 w A0_0 l0_0.length l0_0) (hc0_0 : l0_0.length ≤ c0_0) (h : impl_fromProof.f k l0_0 a0_1 a0_2 a0_3 a0_4 = some (r1, r2, r3, r4, r5)) :
  Calls Tryd.prog 28 #[.agg #[.slice A0_0 l0_0.length c0_0, .int .i64 a0_1, .int .i64 a0_2, .int .u64 a0_3, .int .u64 a0_4]] w fun e w' => ∃ v0_ : Value, e = .returned (.agg #[v0_, .int .u64 r2, .int .u64 r3, .int .i64 r4, .int .i64 r5]) ∧ Kd.R k28 28 w' w.heap.size (fun _ => True) v0_ r1 ∧ Below w.heap.size w w' := by
 have hu61 := Tryd.underlying61
 have hu39 := Tryd.underlying39
 have hu52 := Tryd.underlying52
 have HR0_0 := Aside0.mk hr0_0
 have HC0_0 := Aside0.mk hc0_0
 clear hr0_0 hc0_0
 have HB := Aside0.mk (Below.refl w.heap.size w)
 have H : ((proof_Nodes_Ephem.f l0_0 a0_1 a0_2 a0_3 a0_4).bind fun bt114 => ((impl_fromNodes.f k l0_0).bind fun t119 => ((impl_fromNode.f bt114.1 bt114.2.1).bind fun bt122 => (some (t119, bt122.1, bt122.2, bt114.2.2.1, bt114.2.2.2))))) = some (r1, r2, r3, r4, r5) := h
 clear h
 replace H := Option.bind_eq_some_iff.mp H
 obtain ⟨⟨t114, t115, t116, t117⟩, A20, H⟩ := H
 replace H : ((impl_fromNodes.f k l0_0).bind fun t119 => ((impl_fromNode.f t114 t115).bind fun bt122 => (some (t119, bt122.1, bt122.2, t116, t117)))) = some (r1, r2, r3, r4, r5) := H
 have A2 := Aside0.mk A20
 clear A20
 replace H := Option.bind_eq_some_iff.mp H
 obtain ⟨t119, A30, H⟩ := H
 replace H : ((impl_fromNode.f t114 t115).bind fun bt122 => (some (t119, bt122.1, bt122.2, t116, t117))) = some (r1, r2, r3, r4, r5) := H
 have A3 := Aside0.mk A30
 clear A30
 replace H := Option.bind_eq_some_iff.mp H
 obtain ⟨⟨t122, t123⟩, A40, H⟩ := H
 replace H : (some (t119, t122, t123, t116, t117)) = some (r1, r2, r3, r4, r5) := H
 have A4 := Aside0.mk A40
 clear A40
 simp only [Option.some.injEq, Prod.mk.injEq] at H
 obtain ⟨rfl, rfl, rfl, rfl, rfl⟩ := H
 go_enter Tryd.func28, Tryd.ntmps28
 try go_wp2_with (first | ((with_reducible refine gate_dst (N := 1) rfl ?_); refine box_event ?hg (N := 1) ?hd (cs := #[.slice A0_0 l0_0.length c0_0, .int .i64 a0_1, .int .i64 a0_2, .int .u64 a0_3, .int .u64 a0_4]) (t := 61) ?hr ?_; (case hd => rfl); (case hg => rfl); (case hr => first | (go_simp; done) | (go_simp; rfl)); intro gb112 hg w5 hbox hb; have n0_ := Aside0.mk (below_step bB hb); have n1_ := Aside0.mk (hbox); have n2_ := Aside0.mk ((by rw [hg]; exact (below_size bB) : w.heap.size ≤ gb112)); have n3_ := Aside0.mk ((by rw [hg]; exact (below_size bB) : w.heap.size ≤ gb112)); clear HB; have HB := n0_; have BK112 := n1_; have GW112 := n2_; have GE112 := n3_; clear n0_ n1_ n2_ n3_; clear hb hbox hg) | ((with_reducible refine gate_dst (N := 2) rfl ?_); refine box_event ?hg (N := 2) ?hd (cs := #[.slice none 0 0, .int .u64 0, .int .u64 0, .int .i64 0, .int .i64 0]) (t := 39) ?hr ?_; (case hd => rfl); (case hg => rfl); (case hr => first | (go_simp; done) | (go_simp; rfl)); intro gb113 hg w6 hbox hb; have n0_ := Aside0.mk (blk_below (g := gb112) (o := .cells #[.slice A0_0 l0_0.length c0_0, .int .i64 a0_1, .int .i64 a0_2, .int .u64 a0_3, .int .u64 a0_4] 61 (0, 0)) (kB BK112.out) hb); have n1_ := Aside0.mk (below_step bB hb); have n2_ := Aside0.mk (hbox); have n3_ := Aside0.mk ((by rw [hg]; exact (below_size bB) : w.heap.size ≤ gb113)); have n4_ := Aside0.mk ((by rw [hg]; exact (below_size bB) : w.heap.size ≤ gb113)); have n5_ := Aside0.mk ((by rw [hg]; exact Nat.ne_of_lt (blk_lt (g := gb112) (o := .cells #[.slice A0_0 l0_0.length c0_0, .int .i64 a0_1, .int .i64 a0_2, .int .u64 a0_3, .int .u64 a0_4] 61 (0, 0)) (kB BK112.out)) : gb112 ≠ gb113)); have n6_ := Aside0.mk ((by rw [hg]; exact Nat.ne_of_gt (blk_lt (g := gb112) (o := .cells #[.slice A0_0 l0_0.length c0_0, .int .i64 a0_1, .int .i64 a0_2, .int .u64 a0_3, .int .u64 a0_4] 61 (0, 0)) (kB BK112.out)) : gb113 ≠ gb112)); clear BK112; clear HB; have BK112 := n0_; have HB := n1_; have BK113 := n2_; have GW113 := n3_; have GE113 := n4_; have NB112_113 := n5_; have NB113_112 := n6_; clear n0_ n1_ n2_ n3_ n4_ n5_ n6_; clear hb hbox hg; have hnb7 := NB112_113.out; have hnc7 := NB113_112.out; have hcz8_0 : w6.cell? ⟨gb112, 0, none⟩ = some (.slice A0_0 l0_0.length c0_0) := (blk_cell BK112.out 0).trans rfl; have hcz8_1 : w6.cell? ⟨gb112, 1, none⟩ = some (.int .i64 a0_1) := (blk_cell BK112.out 1).trans rfl; have hcz8_2 : w6.cell? ⟨gb112, 2, none⟩ = some (.int .i64 a0_2) := (blk_cell BK112.out 2).trans rfl; have hcz8_3 : w6.cell? ⟨gb112, 3, none⟩ = some (.int .u64 a0_3) := (blk_cell BK112.out 3).trans rfl; have hcz8_4 : w6.cell? ⟨gb112, 4, none⟩ = some (.int .u64 a0_4) := (blk_cell BK112.out 4).trans rfl; have hfz8_0 := blk_frozen BK112.out 0; have hfz8_1 := blk_frozen BK112.out 1; have hfz8_2 := blk_frozen BK112.out 2; have hfz8_3 := blk_frozen BK112.out 3; have hfz8_4 := blk_frozen BK112.out 4) | ((with_reducible refine gate_callee (f := 39) rfl ?_); refine goesL_ (some 8) rfl rfl Tryd.func39 (by kernel_rfl) rfl #[.agg #[.slice A0_0 l0_0.length c0_0, .int .i64 a0_1, .int .i64 a0_2, .int .u64 a0_3, .int .u64 a0_4]] rfl aV ?_; (with_reducible refine (proof_Nodes_Ephem.calls _ _ l0_0 a0_1 a0_2 a0_3 a0_4 t114 t115 t116 t117 _ ?side1 ?side2 A2.out).mono ?_); (case side1 => repeat (first | exact (Kd.C_below HR0_0.out HB.out) | (with_reducible refine Kd.C_alloc ?_ _) | (with_reducible refine Kd.C_drewN ?_ _) | (with_reducible refine Kd.C_drew ?_))); (case side2 => exact HC0_0.out); rintro e w9 ⟨rfl, hb⟩; refine ⟨_, rfl, ?_⟩; have n0_ := Aside0.mk (blk_below (g := gb112) (o := .cells #[.slice A0_0 l0_0.length c0_0, .int .i64 a0_1, .int .i64 a0_2, .int .u64 a0_3, .int .u64 a0_4] 61 (0, 0)) (kB BK112.out) hb); have n1_ := Aside0.mk (blk_below (g := gb113) (o := .cells #[.slice none 0 0, .int .u64 0, .int .u64 0, .int .i64 0, .int .i64 0] 39 (0, 0)) (kB BK113.out) hb); have n2_ := Aside0.mk (below_step bB hb); clear BK112; clear BK113; clear HB; have BK112 := n0_; have BK113 := n1_; have HB := n2_; clear n0_ n1_ n2_; (try clear hb); (try clear hb2); (try clear hk); (try clear hi)) | ((with_reducible refine gate_dst (N := 3) rfl ?_); refine box_event ?hg (N := 3) ?hd (cs := #[.int .u64 0, .int .u64 0]) (t := 52) ?hr ?_; (case hd => rfl); (case hg => rfl); (case hr => first | (go_simp; done) | (go_simp; rfl)); intro gb118 hg w10 hbox hb; have n0_ := Aside0.mk (blk_below (g := gb112) (o := .cells #[.slice A0_0 l0_0.length c0_0, .int .i64 a0_1, .int .i64 a0_2, .int .u64 a0_3, .int .u64 a0_4] 61 (0, 0)) (kB BK112.out) hb); have n1_ := Aside0.mk (blk_below (g := gb113) (o := .cells #[.slice none 0 0, .int .u64 0, .int .u64 0, .int .i64 0, .int .i64 0] 39 (0, 0)) (kB BK113.out) hb); have n2_ := Aside0.mk (below_step bB hb); have n3_ := Aside0.mk (hbox); have n4_ := Aside0.mk ((by rw [hg]; exact (below_size bB) : w.heap.size ≤ gb118)); have n5_ := Aside0.mk ((by rw [hg]; exact (below_size bB) : w.heap.size ≤ gb118)); have n6_ := Aside0.mk ((by rw [hg]; exact Nat.ne_of_lt (blk_lt (g := gb112) (o := .cells #[.slice A0_0 l0_0.length c0_0, .int .i64 a0_1, .int .i64 a0_2, .int .u64 a0_3, .int .u64 a0_4] 61 (0, 0)) (kB BK112.out)) : gb112 ≠ gb118)); have n7_ := Aside0.mk ((by rw [hg]; exact Nat.ne_of_gt (blk_lt (g := gb112) (o := .cells #[.slice A0_0 l0_0.length c0_0, .int .i64 a0_1, .int .i64 a0_2, .int .u64 a0_3, .int .u64 a0_4] 61 (0, 0)) (kB BK112.out)) : gb118 ≠ gb112)); have n8_ := Aside0.mk ((by rw [hg]; exact Nat.ne_of_lt (blk_lt (g := gb113) (o := .cells #[.slice none 0 0, .int .u64 0, .int .u64 0, .int .i64 0, .int .i64 0] 39 (0, 0)) (kB BK113.out)) : gb113 ≠ gb118)); have n9_ := Aside0.mk ((by rw [hg]; exact Nat.ne_of_gt (blk_lt (g := gb113) (o := .cells #[.slice none 0 0, .int .u64 0, .int .u64 0, .int .i64 0, .int .i64 0] 39 (0, 0)) (kB BK113.out)) : gb118 ≠ gb113)); clear BK112; clear BK113; clear HB; have BK112 := n0_; have BK113 := n1_; have HB := n2_; have BK118 := n3_; have GW118 := n4_; have GE118 := n5_; have NB112_118 := n6_; have NB118_112 := n7_; have NB113_118 := n8_; have NB118_113 := n9_; clear n0_ n1_ n2_ n3_ n4_ n5_ n6_ n7_ n8_ n9_; clear hb hbox hg; have hnb11 := NB118_112.out; have hnc11 := NB112_118.out; have hnb12 := NB118_113.out; have hnc12 := NB113_118.out; have hcz13_0 : w10.cell? ⟨gb118, 0, none⟩ = some (.int .u64 0) := (blk_cell BK118.out 0).trans rfl; have hcz13_1 : w10.cell? ⟨gb118, 1, none⟩ = some (.int .u64 0) := (blk_cell BK118.out 1).trans rfl; have hfz13_0 := blk_frozen BK118.out 0; have hfz13_1 := blk_frozen BK118.out 1))
 have n0_ : Aside0 (((w10.setCell ⟨gb118, 0, none⟩ (.int .u64 t114)).setCell ⟨gb118, 1, none⟩ (.int .u64 t115)).heap[gb112]? = some (.cells #[.slice A0_0 l0_0.length c0_0, .int .i64 a0_1, .int .i64 a0_2, .int .u64 a0_3, .int .u64 a0_4] 61 (0, 0))) := ⟨by (with_reducible repeat (first | refine blk_drewN ?_ _ | refine blk_drew ?_ | refine blk_alloc ?_ _)); refine blk_far ?_ NB112_118.out _; (with_reducible repeat (first | refine blk_drewN ?_ _ | refine blk_drew ?_ | refine blk_alloc ?_ _)); refine blk_far ?_ NB112_118.out _; (with_reducible repeat (first | refine blk_drewN ?_ _ | refine blk_drew ?_ | refine blk_alloc ?_ _)); exact BK112.out⟩
 have n1_ : Aside0 (((w10.setCell ⟨gb118, 0, none⟩ (.int .u64 t114)).setCell ⟨gb118, 1, none⟩ (.int .u64 t115)).heap[gb113]? = some (.cells #[.slice none 0 0, .int .u64 0, .int .u64 0, .int .i64 0, .int .i64 0] 39 (0, 0))) := ⟨by (with_reducible repeat (first | refine blk_drewN ?_ _ | refine blk_drew ?_ | refine blk_alloc ?_ _)); refine blk_far ?_ NB113_118.out _; (with_reducible repeat (first | refine blk_drewN ?_ _ | refine blk_drew ?_ | refine blk_alloc ?_ _)); refine blk_far ?_ NB113_118.out _; (with_reducible repeat (first | refine blk_drewN ?_ _ | refine blk_drew ?_ | refine blk_alloc ?_ _)); exact BK113.out⟩
 have n2_ : Aside0 (((w10.setCell ⟨gb118, 0, none⟩ (.int .u64 t114)).setCell ⟨gb118, 1, none⟩ (.int .u64 t115)).heap[gb118]? = some (.cells #[.int .u64 t114, .int .u64 t115] 52 (0, 0))) := ⟨by (with_reducible repeat (first | refine blk_drewN ?_ _ | refine blk_drew ?_ | refine blk_alloc ?_ _)); refine blk_put (cs := #[.int .u64 t114, .int .u64 0]) ?_ 1 _ rfl; (with_reducible repeat (first | refine blk_drewN ?_ _ | refine blk_drew ?_ | refine blk_alloc ?_ _)); refine blk_put (cs := #[.int .u64 0, .int .u64 0]) ?_ 0 _ rfl; (with_reducible repeat (first | refine blk_drewN ?_ _ | refine blk_drew ?_ | refine blk_alloc ?_ _)); exact BK118.out⟩
 have n3_ : Aside0 (Below w.heap.size w ((w10.setCell ⟨gb118, 0, none⟩ (.int .u64 t114)).setCell ⟨gb118, 1, none⟩ (.int .u64 t115))) := ⟨bB⟩
 (try clear BK112)
 (try clear BK113)
 (try clear BK118)
 (try clear HB)
 generalize ((w10.setCell ⟨gb118, 0, none⟩ (.int .u64 t114)).setCell ⟨gb118, 1, none⟩ (.int .u64 t115)) = w14 at n0_ n1_ n2_ n3_ ⊢
 have BK112 := n0_
 have BK113 := n1_
 have BK118 := n2_
 have HB := n3_
 clear n0_ n1_ n2_ n3_
 have n0_ := Aside0.mk (blk_drew BK112.out)
 have n1_ := Aside0.mk (blk_drew BK113.out)
 have n2_ := Aside0.mk (blk_drew BK118.out)
 have n3_ := Aside0.mk (below_drew1 HB.out)
 clear BK112
 clear BK113
 clear BK118
 clear HB
 have BK112 := n0_
 have BK113 := n1_
 have BK118 := n2_
 have HB := n3_
 clear n0_ n1_ n2_ n3_
 refine start_ (n := 9) (S := fun w' => w'.cell? ⟨gb112, 0, none⟩ = some (.slice A0_0 l0_0.length c0_0) ∧ w'.cell? ⟨gb112, 1, none⟩ = some (.int .i64 a0_1) ∧ w'.cell? ⟨gb112, 2, none⟩ = some (.int .i64 a0_2) ∧ w'.cell? ⟨gb112, 3, none⟩ = some (.int .u64 a0_3) ∧ w'.cell? ⟨gb112, 4, none⟩ = some (.int .u64 a0_4) ∧ w'.cell? ⟨gb118, 0, none⟩ = some (.int .u64 t114) ∧ w'.cell? ⟨gb118, 1, none⟩ = some (.int .u64 t115)) (ds := []) #[false, false, false, false, false, false, false, false, false] (by kernel_rfl) rfl rfl ⟨(blk_cell BK112.out 0).trans rfl, (blk_cell BK112.out 1).trans rfl, (blk_cell BK112.out 2).trans rfl, (blk_cell BK112.out 3).trans rfl, (blk_cell BK112.out 4).trans rfl, (blk_cell BK118.out 0).trans rfl, (blk_cell BK118.out 1).trans rfl⟩ (fun hHeld => ?_); refine with_tabW impl_fromProof.tab2 impl_fromProof.bits2 (fun HT_ HW_ => ?_)
 generalize w14.drew = w15 at BK112 BK113 BK118 HB hHeld ⊢
 refine pure_ (i := 0) (N := some 12) (v := ?_) (a' := ?_) #[true, false, false, false, false, false, false, false, false] rfl rfl (any_of HT_.out (by kernel_rfl)) (fun _ _ _ h => h) (Or.inl ⟨by rfl, ?_⟩) ?_ ?_
 rotate_left
 ·intro w'
  go_simp
  with_reducible rfl
 rotate_left
 ·simp only [Act.put, List.setIfInBounds_toArray, List.set_cons_zero, List.set_cons_succ, i64_w, i32_w]
  rfl
 refine pure_ (i := 5) (N := some 17) (v := ?_) (a' := ?_) #[true, false, false, false, false, true, false, false, false] rfl rfl (any_of HT_.out (by kernel_rfl)) (fun _ _ _ h => h) (Or.inl ⟨by rfl, ?_⟩) ?_ ?_
 rotate_left
 ·intro w'
  go_simp
  with_reducible rfl
 rotate_left
 ·simp only [Act.put, List.setIfInBounds_toArray, List.set_cons_zero, List.set_cons_succ, i64_w, i32_w]
  rfl
 refine pure_ (i := 6) (N := some 18) (v := ?_) (a' := ?_) #[true, false, false, false, false, true, true, false, false] rfl rfl (any_of HT_.out (by kernel_rfl)) (fun _ _ _ h => h) (Or.inl ⟨by rfl, ?_⟩) ?_ ?_
 rotate_left
 ·intro w'
  go_simp
  with_reducible rfl
 rotate_left
 ·simp only [Act.put, List.setIfInBounds_toArray, List.set_cons_zero, List.set_cons_succ, i64_w, i32_w]
  rfl
 refine take_ (i := 1) (N := some 13) (v := ?_) (a' := ?_) #[true, true, false, false, false, true, true, false, false] rfl rfl (take_ofW HT_.out HW_.out (by kernel_rfl)) (fun _ _ _ h => h) (Or.inl ⟨by rfl, ?_⟩) hHeld ?_ ?_
 rotate_left
 ·rintro w' ⟨s0, s1, s2, s3, s4, s5, s6⟩
  go_simp
  with_reducible rfl
 rotate_left
 ·simp only [Act.put, List.setIfInBounds_toArray, List.set_cons_zero, List.set_cons_succ, i64_w, i32_w]
  rfl
 refine take_ (i := 3) (N := some 15) (v := ?_) (a' := ?_) #[true, true, false, true, false, true, true, false, false] rfl rfl (take_ofW HT_.out HW_.out (by kernel_rfl)) (fun _ _ _ h => h) (Or.inl ⟨by rfl, ?_⟩) hHeld ?_ ?_
 rotate_left
 ·rintro w' ⟨s0, s1, s2, s3, s4, s5, s6⟩
  go_simp
  with_reducible rfl
 rotate_left
 ·simp only [Act.put, List.setIfInBounds_toArray, List.set_cons_zero, List.set_cons_succ, i64_w, i32_w]
  rfl
 refine one_ (i := 2) (N := some 14) #[true, true, true, true, false, true, true, false, false] rfl rfl (one_of HT_.out (by kernel_rfl)) (by decide) (fun K hK => ?_)
 refine goes_ Tryd.func22 (by kernel_rfl) rfl #[.slice A0_0 l0_0.length c0_0] (by rfl) rfl rfl aV ?_
 with_reducible refine (impl_fromNodes.calls k _ _ l0_0 t119 _ ?side1 ?side2 A3.out).mono ?_
 (case side1 => repeat (first | exact (Kd.C_below HR0_0.out HB.out) | (with_reducible refine Kd.C_alloc ?_ _) | (with_reducible refine Kd.C_drewN ?_ _) | (with_reducible refine Kd.C_drew ?_)))
 (case side2 => exact HC0_0.out)
 rintro e w16 ⟨v120, rfl, ho0, hb⟩
 refine ⟨_, rfl, ?_⟩
 have n0_ := Aside0.mk (Kd.R_lower ho0 (below_size bB))
 have n1_ := Aside0.mk (blk_below (g := gb112) (o := .cells #[.slice A0_0 l0_0.length c0_0, .int .i64 a0_1, .int .i64 a0_2, .int .u64 a0_3, .int .u64 a0_4] 61 (0, 0)) (kB BK112.out) hb)
 have n2_ := Aside0.mk (blk_below (g := gb113) (o := .cells #[.slice none 0 0, .int .u64 0, .int .u64 0, .int .i64 0, .int .i64 0] 39 (0, 0)) (kB BK113.out) hb)
 have n3_ := Aside0.mk (blk_below (g := gb118) (o := .cells #[.int .u64 t114, .int .u64 t115] 52 (0, 0)) (kB BK118.out) hb)
 have n4_ := Aside0.mk (below_step bB hb)
 clear BK112
 clear BK113
 clear BK118
 clear HB
 have HO121 := n0_
 have BK112 := n1_
 have BK113 := n2_
 have BK118 := n3_
 have HB := n4_
 clear n0_ n1_ n2_ n3_ n4_
 (try clear hb)
 (try clear hb2)
 (try clear hk)
 (try clear hi)
 (try clear ho0)
 refine hK.out _ _ ⟨(blk_cell BK112.out 0).trans rfl, (blk_cell BK112.out 1).trans rfl, (blk_cell BK112.out 2).trans rfl, (blk_cell BK112.out 3).trans rfl, (blk_cell BK112.out 4).trans rfl, (blk_cell BK118.out 0).trans rfl, (blk_cell BK118.out 1).trans rfl⟩ (fun hHeld => ?_)
 clear hK K
 refine norm_ (a' := ?_) ?_ ?_
 rotate_left
 ·show Act.put _ (some 14) _ = _
  simp only [Act.put, List.setIfInBounds_toArray, List.set_cons_zero, List.set_cons_succ, i64_w, i32_w]
  rfl
 refine one_ (i := 4) (N := some 16) #[true, true, true, true, true, true, true, false, false] rfl rfl (one_of HT_.out (by kernel_rfl)) (by decide) (fun K hK => ?_)
 refine goes_ Tryd.func25 (by kernel_rfl) rfl #[.agg #[.int .u64 t114, .int .u64 t115]] (by rfl) rfl rfl aV ?_
 with_reducible refine (impl_fromNode.calls t114 t115 t122 t123 _ A4.out).mono ?_
 rintro e w17 ⟨rfl, hb⟩
 refine ⟨_, rfl, ?_⟩
 have n0_ := Aside0.mk (Kd.R_below (kR HO121.out) hb)
 have n1_ := Aside0.mk (blk_below (g := gb112) (o := .cells #[.slice A0_0 l0_0.length c0_0, .int .i64 a0_1, .int .i64 a0_2, .int .u64 a0_3, .int .u64 a0_4] 61 (0, 0)) (kB BK112.out) hb)
 have n2_ := Aside0.mk (blk_below (g := gb113) (o := .cells #[.slice none 0 0, .int .u64 0, .int .u64 0, .int .i64 0, .int .i64 0] 39 (0, 0)) (kB BK113.out) hb)
 have n3_ := Aside0.mk (blk_below (g := gb118) (o := .cells #[.int .u64 t114, .int .u64 t115] 52 (0, 0)) (kB BK118.out) hb)
 have n4_ := Aside0.mk (below_step bB hb)
 clear HO121
 clear BK112
 clear BK113
 clear BK118
 clear HB
 have HO121 := n0_
 have BK112 := n1_
 have BK113 := n2_
 have BK118 := n3_
 have HB := n4_
 clear n0_ n1_ n2_ n3_ n4_
 (try clear hb)
 (try clear hb2)
 (try clear hk)
 (try clear hi)
 obtain ⟨Ao18, co18, eo18⟩ := Kd.R_slice HO121.out
 (first | subst eo18 | (injection eo18 with f1_ f2_ f3_; have f4_ := f1_.symm; have f5_ := f3_.symm; clear f1_ f2_ f3_; subst f4_; subst f5_))
 refine hK.out _ _ ⟨(blk_cell BK112.out 0).trans rfl, (blk_cell BK112.out 1).trans rfl, (blk_cell BK112.out 2).trans rfl, (blk_cell BK112.out 3).trans rfl, (blk_cell BK112.out 4).trans rfl, (blk_cell BK118.out 0).trans rfl, (blk_cell BK118.out 1).trans rfl⟩ (fun hHeld => ?_)
 clear hK K
 refine norm_ (a' := ?_) ?_ ?_
 rotate_left
 ·show Act.put _ (some 16) _ = _
  simp only [Act.put, List.setIfInBounds_toArray, List.set_cons_zero, List.set_cons_succ, i64_w, i32_w]
  rfl
 refine pure_ (i := 7) (N := some 19) (v := ?_) (a' := ?_) #[true, true, true, true, true, true, true, true, false] rfl rfl (any_of HT_.out (by kernel_rfl)) (fun _ _ _ h => h) (Or.inl ⟨by rfl, ?_⟩) ?_ ?_
 rotate_left
 ·intro w'
  go_simp
  with_reducible rfl
 rotate_left
 ·simp only [Act.put, List.setIfInBounds_toArray, List.set_cons_zero, List.set_cons_succ, i64_w, i32_w]
  rfl
 refine one_ (i := 8) (N := none) #[true, true, true, true, true, true, true, true, true] rfl rfl (one_of HT_.out (by kernel_rfl)) (by decide) (fun K hK => ?_)
 have hs19 : w17.cell? ⟨gb113, 0, none⟩ = some (.slice none 0 0) := (blk_cell BK113.out 0).trans rfl
 have hfs19 := blk_frozen BK113.out 0
 have hns19_0 := NB112_113.out
 have hns19_2 := NB118_113.out
 have hms19_0 := NB113_112.out
 have hms19_2 := NB113_118.out
 have hs20 : w17.cell? ⟨gb113, 1, none⟩ = some (.int .u64 0) := (blk_cell BK113.out 1).trans rfl
 have hfs20 := blk_frozen BK113.out 1
 have hns20_0 := NB112_113.out
 have hns20_2 := NB118_113.out
 have hms20_0 := NB113_112.out
 have hms20_2 := NB113_118.out
 have hs21 : w17.cell? ⟨gb113, 2, none⟩ = some (.int .u64 0) := (blk_cell BK113.out 2).trans rfl
 have hfs21 := blk_frozen BK113.out 2
 have hns21_0 := NB112_113.out
 have hns21_2 := NB118_113.out
 have hms21_0 := NB113_112.out
 have hms21_2 := NB113_118.out
 have hs22 : w17.cell? ⟨gb113, 3, none⟩ = some (.int .i64 0) := (blk_cell BK113.out 3).trans rfl
 have hfs22 := blk_frozen BK113.out 3
 have hns22_0 := NB112_113.out
 have hns22_2 := NB118_113.out
 have hms22_0 := NB113_112.out
 have hms22_2 := NB113_118.out
 have hs23 : w17.cell? ⟨gb113, 4, none⟩ = some (.int .i64 0) := (blk_cell BK113.out 4).trans rfl
 have hfs23 := blk_frozen BK113.out 4
 have hns23_0 := NB112_113.out
 have hns23_2 := NB118_113.out
 have hms23_0 := NB113_112.out
 have hms23_2 := NB113_118.out
 refine skip_ (w1 := ?_) (by rfl) rfl ?_ ?_
 rotate_left
 ·go_simp
  rfl
 refine hK.out _ _ ⟨((cell_far (p := ⟨gb113, _, none⟩) NB112_113.out _).trans (((cell_far (p := ⟨gb113, _, none⟩) NB112_113.out _).trans (((cell_far (p := ⟨gb113, _, none⟩) NB112_113.out _).trans (((cell_far (p := ⟨gb113, _, none⟩) NB112_113.out _).trans (((cell_far (p := ⟨gb113, _, none⟩) NB112_113.out _).trans (hHeld.1)))))))))), ((cell_far (p := ⟨gb113, _, none⟩) NB112_113.out _).trans (((cell_far (p := ⟨gb113, _, none⟩) NB112_113.out _).trans (((cell_far (p := ⟨gb113, _, none⟩) NB112_113.out _).trans (((cell_far (p := ⟨gb113, _, none⟩) NB112_113.out _).trans (((cell_far (p := ⟨gb113, _, none⟩) NB112_113.out _).trans (hHeld.2.1)))))))))), ((cell_far (p := ⟨gb113, _, none⟩) NB112_113.out _).trans (((cell_far (p := ⟨gb113, _, none⟩) NB112_113.out _).trans (((cell_far (p := ⟨gb113, _, none⟩) NB112_113.out _).trans (((cell_far (p := ⟨gb113, _, none⟩) NB112_113.out _).trans (((cell_far (p := ⟨gb113, _, none⟩) NB112_113.out _).trans (hHeld.2.2.1)))))))))), ((cell_far (p := ⟨gb113, _, none⟩) NB112_113.out _).trans (((cell_far (p := ⟨gb113, _, none⟩) NB112_113.out _).trans (((cell_far (p := ⟨gb113, _, none⟩) NB112_113.out _).trans (((cell_far (p := ⟨gb113, _, none⟩) NB112_113.out _).trans (((cell_far (p := ⟨gb113, _, none⟩) NB112_113.out _).trans (hHeld.2.2.2.1)))))))))), ((cell_far (p := ⟨gb113, _, none⟩) NB112_113.out _).trans (((cell_far (p := ⟨gb113, _, none⟩) NB112_113.out _).trans (((cell_far (p := ⟨gb113, _, none⟩) NB112_113.out _).trans (((cell_far (p := ⟨gb113, _, none⟩) NB112_113.out _).trans (((cell_far (p := ⟨gb113, _, none⟩) NB112_113.out _).trans (hHeld.2.2.2.2.1)))))))))), ((cell_far (p := ⟨gb113, _, none⟩) NB118_113.out _).trans (((cell_far (p := ⟨gb113, _, none⟩) NB118_113.out _).trans (((cell_far (p := ⟨gb113, _, none⟩) NB118_113.out _).trans (((cell_far (p := ⟨gb113, _, none⟩) NB118_113.out _).trans (((cell_far (p := ⟨gb113, _, none⟩) NB118_113.out _).trans (hHeld.2.2.2.2.2.1)))))))))), ((cell_far (p := ⟨gb113, _, none⟩) NB118_113.out _).trans (((cell_far (p := ⟨gb113, _, none⟩) NB118_113.out _).trans (((cell_far (p := ⟨gb113, _, none⟩) NB118_113.out _).trans (((cell_far (p := ⟨gb113, _, none⟩) NB118_113.out _).trans (((cell_far (p := ⟨gb113, _, none⟩) NB118_113.out _).trans (hHeld.2.2.2.2.2.2))))))))))⟩ (fun hHeld => ?_)
 clear hK K
 refine done_ (done_of HT_.out (by kernel_rfl)) ?_
 try go_wp2
 refine bodyPost_ret (results_cell_row rfl _ _ gb113 39 #[.slice Ao18 t119.length co18, .int .u64 t122, .int .u64 t123, .int .i64 t116, .int .i64 t117] (0, 0) _ rfl (by (with_reducible repeat (first | refine blk_drewN ?_ _ | refine blk_drew ?_ | refine blk_alloc ?_ _)); refine blk_put (cs := #[.slice Ao18 t119.length co18, .int .u64 t122, .int .u64 t123, .int .i64 t116, .int .i64 0]) ?_ 4 _ rfl; (with_reducible repeat (first | refine blk_drewN ?_ _ | refine blk_drew ?_ | refine blk_alloc ?_ _)); refine blk_put (cs := #[.slice Ao18 t119.length co18, .int .u64 t122, .int .u64 t123, .int .i64 0, .int .i64 0]) ?_ 3 _ rfl; (with_reducible repeat (first | refine blk_drewN ?_ _ | refine blk_drew ?_ | refine blk_alloc ?_ _)); refine blk_put (cs := #[.slice Ao18 t119.length co18, .int .u64 t122, .int .u64 0, .int .i64 0, .int .i64 0]) ?_ 2 _ rfl; (with_reducible repeat (first | refine blk_drewN ?_ _ | refine blk_drew ?_ | refine blk_alloc ?_ _)); refine blk_put (cs := #[.slice Ao18 t119.length co18, .int .u64 0, .int .u64 0, .int .i64 0, .int .i64 0]) ?_ 1 _ rfl; (with_reducible repeat (first | refine blk_drewN ?_ _ | refine blk_drew ?_ | refine blk_alloc ?_ _)); refine blk_put (cs := #[.slice none 0 0, .int .u64 0, .int .u64 0, .int .i64 0, .int .i64 0]) ?_ 0 _ rfl; (with_reducible repeat (first | refine blk_drewN ?_ _ | refine blk_drew ?_ | refine blk_alloc ?_ _)); exact BK113.out) Tryd.underlying39 rfl (by kernel_rfl)) rfl ?_
 exact ⟨_, by first | rfl | (simp [errW_none, errW_some] <;> rfl) | (simp [*, errW_none, errW_some] <;> rfl), by (with_reducible repeat (first | apply Kd.R_alloc | apply Kd.R_drewN | apply Kd.R_drew)); exact Kd.R_mono (Kd.R_far (p := ⟨gb113, 4, none⟩) (Kd.R_far (p := ⟨gb113, 3, none⟩) (Kd.R_far (p := ⟨gb113, 2, none⟩) (Kd.R_far (p := ⟨gb113, 1, none⟩) (Kd.R_far (p := ⟨gb113, 0, none⟩) (Kd.R_types HO121.out BK113.out (by decide)) (fun _ hk => hk.2) (.slice Ao18 t119.length co18)) (fun _ hk => hk.2) (.int .u64 t122)) (fun _ hk => hk.2) (.int .u64 t123)) (fun _ hk => hk.2) (.int .i64 t116)) (fun _ hk => hk.2) (.int .i64 t117)) (fun _ hk => trivial), bB⟩


/-! ### bits_Len64: function 38 -/
def bits_Len64.f (a0 : Int) : Option (Int) := if 0 ≤ a0 ∧ a0 ≤ 18446744073709551615 then some (Lib.bitLen a0.toNat : Int) else none
theorem bits_Len64.calls (a0 : Int) (r : Int) (w : World) (h : bits_Len64.f a0 = some r) :
  Calls Tryd.prog 38 #[.int .u64 a0] w fun e w' => e = .returned (.int .i64 r) ∧ Drawn0 w w' := by
 unfold bits_Len64.f at h
 split at h
 ·rename_i hc
  injection h with h
  subst h
  refine (Tryd.bits_Len64 a0 w hc.1 hc.2).mono ?_
  rintro e w' ⟨rfl, rfl⟩
  exact ⟨rfl, Drawn0.refl _⟩
 ·cases h


/-! ### compact_NewNodeID: function 36 -/
def compact_NewNodeID.f (a0 : Int) (a1 : Int) : Option (Int × Int) := some (a0, a1)
set_option maxHeartbeats 8000000 in
set_option maxRecDepth 100000 in
theorem compact_NewNodeID.calls (a0 : Int) (a1 : Int) (r1 : Int) (r2 : Int) (w : World) (h : compact_NewNodeID.f a0 a1 = some (r1, r2)) :
  Calls Tryd.prog 36 #[.int .u64 a0, .int .u64 a1] w fun e w' => e = .returned (.agg #[.int .u64 r1, .int .u64 r2]) ∧ Below w.heap.size w w' := by
 have hu52 := Tryd.underlying52
 have HB := Aside0.mk (Below.refl w.heap.size w)
 have H : (some (a0, a1)) = some (r1, r2) := h
 clear h
 simp only [Option.some.injEq, Prod.mk.injEq] at H
 obtain ⟨rfl, rfl⟩ := H
 go_enter Tryd.func36, Tryd.ntmps36
 go_wp2_with (first | ((with_reducible refine gate_dst (N := 4) rfl ?_); refine box_event ?hg (N := 4) ?hd (cs := #[.int .u64 0, .int .u64 0]) (t := 52) ?hr ?_; (case hd => rfl); (case hg => rfl); (case hr => first | (go_simp; done) | (go_simp; rfl)); intro gb125 hg w3 hbox hb; have n0_ := Aside0.mk (below_step bB hb); have n1_ := Aside0.mk (hbox); have n2_ := Aside0.mk ((by rw [hg]; exact (below_size bB) : w.heap.size ≤ gb125)); have n3_ := Aside0.mk ((by rw [hg]; exact (below_size bB) : w.heap.size ≤ gb125)); clear HB; have HB := n0_; have BK125 := n1_; have GW125 := n2_; have GE125 := n3_; clear n0_ n1_ n2_ n3_; clear hb hbox hg; have hcz4_0 : w3.cell? ⟨gb125, 0, none⟩ = some (.int .u64 0) := (blk_cell BK125.out 0).trans rfl; have hcz4_1 : w3.cell? ⟨gb125, 1, none⟩ = some (.int .u64 0) := (blk_cell BK125.out 1).trans rfl; have hfz4_0 := blk_frozen BK125.out 0; have hfz4_1 := blk_frozen BK125.out 1))
 refine bodyPost_ret (results_cell_row rfl _ _ gb125 52 #[.int .u64 a0, .int .u64 a1] (0, 0) _ rfl (by (with_reducible repeat (first | refine blk_drewN ?_ _ | refine blk_drew ?_ | refine blk_alloc ?_ _)); refine blk_put (cs := #[.int .u64 a0, .int .u64 0]) ?_ 1 _ rfl; (with_reducible repeat (first | refine blk_drewN ?_ _ | refine blk_drew ?_ | refine blk_alloc ?_ _)); refine blk_put (cs := #[.int .u64 0, .int .u64 0]) ?_ 0 _ rfl; (with_reducible repeat (first | refine blk_drewN ?_ _ | refine blk_drew ?_ | refine blk_alloc ?_ _)); exact BK125.out) Tryd.underlying52 rfl (by kernel_rfl)) rfl ?_
 exact ⟨by first | rfl | (simp [errW_none, errW_some] <;> rfl) | (simp [*, errW_none, errW_some] <;> rfl), bB⟩


/-! ### compact_Decompose: function 27 -/
def compact_Decompose.f (a0 : Int) (a1 : Int) : Option (Int × Int) := if a0 = 0 then (some (0, a1)) else ((bits_Len64.f (Go.bits .xor .u64 (IntKind.u64.wrap (a0 - 1)) a1)).bind fun t124 => (if 0 ≤ (IntKind.u64.wrap (wrap64 (t124 - 1))) then (some (Go.bits .and .u64 (Go.bits .xor .u64 18446744073709551615 (IntKind.u64.wrap (a0 - 1))) (IntKind.u64.wrap ((shl .u64 1 (IntKind.u64.wrap (wrap64 (t124 - 1)))) - 1)), Go.bits .and .u64 a1 (IntKind.u64.wrap ((shl .u64 1 (IntKind.u64.wrap (wrap64 (t124 - 1)))) - 1)))) else (none)))
set_option maxHeartbeats 8000000 in
set_option maxRecDepth 100000 in
theorem compact_Decompose.calls (a0 : Int) (a1 : Int) (r1 : Int) (r2 : Int) (w : World) (h : compact_Decompose.f a0 a1 = some (r1, r2)) :
  Calls Tryd.prog 27 #[.int .u64 a0, .int .u64 a1] w fun e w' => e = .returned (.tuple #[.int .u64 r1, .int .u64 r2]) ∧ Drawn0 w w' := by
 have H : (if a0 = 0 then (some (0, a1)) else ((bits_Len64.f (Go.bits .xor .u64 (IntKind.u64.wrap (a0 - 1)) a1)).bind fun t124 => (if 0 ≤ (IntKind.u64.wrap (wrap64 (t124 - 1))) then (some (Go.bits .and .u64 (Go.bits .xor .u64 18446744073709551615 (IntKind.u64.wrap (a0 - 1))) (IntKind.u64.wrap ((shl .u64 1 (IntKind.u64.wrap (wrap64 (t124 - 1)))) - 1)), Go.bits .and .u64 a1 (IntKind.u64.wrap ((shl .u64 1 (IntKind.u64.wrap (wrap64 (t124 - 1)))) - 1)))) else (none)))) = some (r1, r2) := h
 clear h
 by_cases c3 : a0 = 0
 ·rw [if_pos c3] at H
  have c3b0 : (a0 == 0) = true := beq_iff_eq.mpr c3
  have c3b1 : (a0 != 0) = false := bne_eq_false_iff_eq.mpr c3
  clear c3
  simp only [Option.some.injEq, Prod.mk.injEq] at H
  obtain ⟨rfl, rfl⟩ := H
  go_enter Tryd.func27, Tryd.ntmps27
  go_wp2
  go_ret2
  exact ⟨by first | rfl | (simp; done) | (simp [*]; done), by repeat (first | exact Drawn0.refl _ | apply Drawn0.step)⟩
 ·rw [if_neg c3] at H
  have c3b0 : (a0 == 0) = false := beq_eq_false_iff_ne.mpr c3
  have c3b1 : (a0 != 0) = true := bne_iff_ne.mpr c3
  replace H := Option.bind_eq_some_iff.mp H
  obtain ⟨t124, A40, H⟩ := H
  replace H : (if 0 ≤ (IntKind.u64.wrap (wrap64 (t124 - 1))) then (some (Go.bits .and .u64 (Go.bits .xor .u64 18446744073709551615 (IntKind.u64.wrap (a0 - 1))) (IntKind.u64.wrap ((shl .u64 1 (IntKind.u64.wrap (wrap64 (t124 - 1)))) - 1)), Go.bits .and .u64 a1 (IntKind.u64.wrap ((shl .u64 1 (IntKind.u64.wrap (wrap64 (t124 - 1)))) - 1)))) else (none)) = some (r1, r2) := H
  have A4 := Aside0.mk A40
  clear A40
  obtain ⟨ji5, hji5⟩ : ∃ j_ : Int, (IntKind.u64.wrap (wrap64 (t124 - 1))) = j_ := ⟨_, rfl⟩
  replace H : (if 0 ≤ (ji5) then (some (Go.bits .and .u64 (Go.bits .xor .u64 18446744073709551615 (IntKind.u64.wrap (a0 - 1))) (IntKind.u64.wrap ((shl .u64 1 (ji5)) - 1)), Go.bits .and .u64 a1 (IntKind.u64.wrap ((shl .u64 1 (ji5)) - 1)))) else (none)) = some (r1, r2) := by first | (rw [hji5] at H; exact H) | (simp only [hji5] at H ⊢; exact H)
  (try rw [hji5] at A4)
  by_cases c6 : 0 ≤ (ji5)
  ·rw [if_pos c6] at H
   have c6b0 := eq_true c6
   have c6b1 : decide (0 ≤ (ji5)) = true := decide_eq_true c6
   clear c6
   obtain ⟨ji7, hji7⟩ : ∃ j_ : Int, (shl .u64 1 (ji5)) = j_ := ⟨_, rfl⟩
   replace H : (some (Go.bits .and .u64 (Go.bits .xor .u64 18446744073709551615 (IntKind.u64.wrap (a0 - 1))) (IntKind.u64.wrap ((ji7) - 1)), Go.bits .and .u64 a1 (IntKind.u64.wrap ((ji7) - 1)))) = some (r1, r2) := by first | (rw [hji7] at H; exact H) | (simp only [hji7] at H ⊢; exact H)
   (try rw [hji7] at A4)
   have hji7_ : (IntKind.u64.wrap (1 * 2 ^ min (ji5).toNat 64)) = ji7 := hji7
   have hji7z : (ji5) ≤ 64 → (IntKind.u64.wrap (1 * 2 ^ (ji5).toNat)) = ji7 := shl_small hji7
   have hji7u : (IntKind.u64.wrap (2 ^ min (ji5).toNat 64)) = ji7 := by have h_ := hji7_; rw [Int.one_mul] at h_; exact h_
   have hji7v : (ji5) ≤ 64 → (IntKind.u64.wrap (2 ^ (ji5).toNat)) = ji7 := fun hle_ => by have h_ := hji7z hle_; rw [Int.one_mul] at h_; exact h_
   simp only [Option.some.injEq, Prod.mk.injEq] at H
   obtain ⟨rfl, rfl⟩ := H
   go_enter Tryd.func27, Tryd.ntmps27
   go_wp2_with (first | ((with_reducible refine gate_callee (f := 38) rfl ?_); refine goesL_ (some 17) rfl rfl Tryd.func38 (by kernel_rfl) rfl #[.int .u64 (Go.bits .xor .u64 (IntKind.u64.wrap (a0 - 1)) a1)] rfl aV ?_; (with_reducible refine (bits_Len64.calls (Go.bits .xor .u64 (IntKind.u64.wrap (a0 - 1)) a1) t124 _ A4.out).mono ?_); rintro e w' ⟨rfl, ⟨nd, rfl⟩⟩; refine ⟨_, rfl, ?_⟩))
   go_ret2
   exact ⟨by first | rfl | (simp; done) | (simp only [← hji5, ← hji7] <;> (first | rfl | simp)) | (simp [*]; done), by repeat (first | exact Drawn0.refl _ | apply Drawn0.step)⟩
  ·rw [if_neg c6] at H
   exact absurd H (by simp)


/-! ### bits_TrailingZeros64: function 37 -/
set_option maxHeartbeats 1000000 in
theorem bits_TrailingZeros64.core (x k idx : Nat) (w : World) (hx0 : ((x : Int) == 0) = false)
  (key : IntKind.u64.wrap (bits BinOp.and IntKind.u64 (x : Int) (IntKind.u64.wrap (-(x : Int))) * 285870213051353865) / 288230376151711744 = (idx : Int))
  (hi : idx < 64) (hk : k < 64) (hcell : w.cell? ⟨0, idx, none⟩ = some (.int .u8 k)) :
  Calls Tryd.prog 37 #[.int .u64 x] w fun e w' => e = .returned (.int .i64 k) ∧ w' = w := by
 go_enter Tryd.func37, Tryd.ntmps37
 go_wp2_with (simp only [key])
 go_ret
 exact ⟨rfl, rfl⟩
theorem bits_TrailingZeros64.zero (w : World) :
  Calls Tryd.prog 37 #[.int .u64 0] w fun e w' => e = .returned (.int .i64 64) ∧ w' = w := by
 go_enter Tryd.func37, Tryd.ntmps37
 go_wp2
 go_ret
 exact ⟨rfl, rfl⟩
theorem bits_TrailingZeros64.any (x : Nat) (hx : x < 18446744073709551616) (w : World) (hT : TabOK w) :
  Calls Tryd.prog 37 #[.int .u64 x] w fun e w' => e = .returned (.int .i64 (Lib.ctz 64 x)) ∧ w' = w := by
 by_cases hx0 : x = 0
 ·subst hx0
  exact bits_TrailingZeros64.zero w
 ·obtain ⟨hlow, hk⟩ := Lib.lowest_bit 64 x hx0 hx
  obtain ⟨hi, htab⟩ := Lib.deBruijn64_at _ hk
  have hcell := hT.tz _ hi
  rw [htab] at hcell
  exact bits_TrailingZeros64.core x _ _ w (by simp; omega) (tz64_key x _ hx hx0 hlow) hi hk hcell
def bits_TrailingZeros64.f (a0 : Int) : Option (Int) := if 0 ≤ a0 ∧ a0 ≤ 18446744073709551615 then some (Lib.ctz 64 a0.toNat : Int) else none
theorem bits_TrailingZeros64.calls (a0 : Int) (r : Int) (w : World) (hT : TabOK w) (h : bits_TrailingZeros64.f a0 = some r) :
  Calls Tryd.prog 37 #[.int .u64 a0] w fun e w' => e = .returned (.int .i64 r) ∧ Drawn0 w w' := by
 unfold bits_TrailingZeros64.f at h
 split at h
 ·rename_i hc
  injection h with h
  subst h
  obtain ⟨x, rfl⟩ : ∃ x : Nat, a0 = (x : Int) := ⟨a0.toNat, by omega⟩
  rw [Int.toNat_natCast]
  refine (bits_TrailingZeros64.any x (by omega) w hT).mono ?_
  rintro e w' ⟨rfl, rfl⟩
  exact ⟨rfl, Drawn0.refl _⟩
 ·cases h

end Go.Proofs.YtkkkaegocinkeaaDoor.M

