-- Written by a program of ours (wip/xp) out of the translation; Lean checks it.
import Derived.Test.YtkmdkmlgahfcpaaDoorSq
import Derived.Test.YtkmdkmlgahfcpaaDoorMm1
import Derived.Test.YtkmdkmlgahfcpaaDoorMm2
import Derived.Test.YtkmdkmlgahfcpaaDoorMm4
import Derived.Test.YtkmdkmlgahfcpaaDoorMm5
import Derived.Test.YtkmdkmlgahfcpaaDoorMm8
import Derived.Test.YtkmdkmlgahfcpaaDoorMm9
namespace Go.Proofs.YtkmdkmlgahfcpaaDoor.M
open Go.RowKit Go.Proofs.YtkmdkmlgahfcpaaDoorW.PrintWords Go.Proofs.YtkmdkmlgahfcpaaDoorW.PrintLast Go.Proofs.YtkmdkmlgahfcpaaDoorW.PrintMore
attribute [local go_sem] max2_int min2_int max_two min_two max_three min_three max_four min_four   -- for this text's walks alone
set_option linter.unusedVariables false
set_option linter.unusedSimpArgs false

/-! ### laws_FnRangeMergeLeaves: function 7 -/
theorem eqA54m (d : Nat) (w : World) (x0 y0 : Int) (x1 y1 : Int) :
  (Op.equalIn (d + 2) 54 (.agg #[.int .u64 x0, .int .u64 x1]) (.agg #[.int .u64 y0, .int .u64 y1])).run Tryd.prog w = .ok (x0 == y0 && (x1 == y1)) w := by
 refine eqA_of Tryd.underlying54 (by kernel_rfl) ?_
 refine eqf_cons (by rfl) (by go_simp; rfl) (by go_simp; rfl) (by go_simp) ?_
 exact eqf_last (by rfl) (by go_simp; rfl) (by go_simp; rfl) (by go_simp)
attribute [local go_sem high] eqA54m

/-- The law's loop: the nodes on the way up from the leaf at the border. -/
def mlL (k : Nat) (a0 a1 a2 a3 a4 a5 b m e : Int) (all : List (List Int)) (seen : List S60) : Nat → Int → Int → Int → Option Bool
 | 0, _, _, _ => none
 | q + 1, x, lv, ix =>
  if lv < 64 then (spec_Leaves.f lv ix).bind fun p =>
   if p.1 < b ∨ p.2 > e ∨ p.2 ≤ p.1 then some (x == (seen.length : Int))
   else if p.1 ≥ m then (impl_Parent.f lv ix).bind fun n => mlL k a0 a1 a2 a3 a4 a5 b m e all seen q x n.1 n.2
   else if x ≥ (seen.length : Int) then some false
   else if 0 ≤ x then
    (if (!((rd_T60 seen x).f0.f0 == lv) || !((rd_T60 seen x).f0.f1 == ix)) = true then some false
    else (spec_RootOf.f k a0 a1 a2 a3 a4 a5 all (IntKind.u64.wrap (p.1 - b)) (IntKind.u64.wrap (p.2 - b))).bind fun t => (spec_SameText.f (rd_T60 seen x).f1 t).bind fun s =>
     if s = true then (impl_Parent.f lv ix).bind fun n => mlL k a0 a1 a2 a3 a4 a5 b m e all seen q (wrap64 (x + 1)) n.1 n.2 else some false)
   else none
  else some (x == (seen.length : Int))
def mlC (k : Nat) (a0 a1 a2 a3 a4 a5 b m e : Int) (l2 l3 all : List (List Int)) (seen : List S60) (x : Bool) : Option Bool :=
 if x = true then some false
 else if (l2.length : Int) > 0 ∧ (l3.length : Int) > 0 then mlL k a0 a1 a2 a3 a4 a5 b m e all seen k 0 0 m
 else some ((0 : Int) == (seen.length : Int))
def mlB (k : Nat) (a0 a1 a2 a3 a4 a5 b : Int) (l2 l3 : List (List Int)) (x : Bool) : Option Bool :=
 if x = true then some true
 else if l2.length + l3.length < 5864062014805 then (laws_rangeRoom.f k b b ([] : List (List Int)) (l2 ++ l3)).bind fun t =>
  if t = true then (spec_RangeOf.f k a0 a1 a2 a3 a4 a5 b l2).bind fun r1 => (spec_RangeOf.f k a0 a1 a2 a3 a4 a5 (IntKind.u64.wrap (b + (IntKind.u64.wrap ((l2.length : Int))))) l3).bind fun r2 =>
   (impl_AppendRange.f k a0 a1 a2 a3 a4 a5 r1.1 r1.2.1 r1.2.2 r2.1 r2.2.1 r2.2.2).bind fun g =>
    if g.2.2.2.2 = true then (spec_RangeOf.f k a0 a1 a2 a3 a4 a5 b (l2 ++ l3)).bind fun ra => (spec_SameRange.f k g.1 g.2.1 g.2.2.1 ra.1 ra.2.1 ra.2.2).bind fun s =>
     mlC k a0 a1 a2 a3 a4 a5 b (IntKind.u64.wrap (b + (IntKind.u64.wrap ((l2.length : Int))))) (IntKind.u64.wrap (b + (IntKind.u64.wrap (((l2 ++ l3).length : Int))))) l2 l3 (l2 ++ l3) g.2.2.2.1 (!s)
    else mlC k a0 a1 a2 a3 a4 a5 b (IntKind.u64.wrap (b + (IntKind.u64.wrap ((l2.length : Int))))) (IntKind.u64.wrap (b + (IntKind.u64.wrap (((l2 ++ l3).length : Int))))) l2 l3 (l2 ++ l3) g.2.2.2.1 true
  else some true
 else none
def laws_FnRangeMergeLeaves.f (k : Nat) (a0_0 : Int) (a0_1 : Int) (a0_2 : Int) (a0_3 : Int) (a0_4 : Int) (a0_5 : Int) (a1 : Int) (l2 : List (List Int)) (l3 : List (List Int)) : Option (Bool) :=
 (laws_zzFits2.f k l2).bind fun t267 => (if t267 = true then ((laws_zzFits2.f k l3).bind fun t268 => (mlB k a0_0 a0_1 a0_2 a0_3 a0_4 a0_5 a1 l2 l3 (!t268))) else (mlB k a0_0 a0_1 a0_2 a0_3 a0_4 a0_5 a1 l2 l3 true))

theorem mlL.mono (k : Nat) (a0 a1 a2 a3 a4 a5 b m e : Int) (all : List (List Int)) (seen : List S60) : ∀ (q : Nat) (x lv ix : Int), LeO (mlL k a0 a1 a2 a3 a4 a5 b m e all seen q x lv ix) (mlL (k + 1) a0 a1 a2 a3 a4 a5 b m e all seen (q + 1) x lv ix)
 | 0, _, _, _ => fun r h => by simp [mlL] at h
 | q + 1, x, lv, ix => by
  rw [mlL, mlL]
  refine LeO.ite (LeO.bind (LeO.refl _) (fun p => LeO.ite (LeO.refl _) (LeO.ite (LeO.bind (LeO.refl _) (fun n => mlL.mono k a0 a1 a2 a3 a4 a5 b m e all seen q _ _ _)) (LeO.ite (LeO.refl _) (LeO.ite (LeO.ite (LeO.refl _) (LeO.bind (spec_RootOf.mono _ _ _ _ _ _ _ _ _ _) (fun t => LeO.bind (LeO.refl _) (fun s => LeO.ite (LeO.bind (LeO.refl _) (fun n => mlL.mono k a0 a1 a2 a3 a4 a5 b m e all seen q _ _ _)) (LeO.refl _))))) (LeO.refl _)))))) (LeO.refl _)
theorem mlC.mono (k : Nat) (a0 a1 a2 a3 a4 a5 b m e : Int) (l2 l3 all : List (List Int)) (seen : List S60) (x : Bool) : LeO (mlC k a0 a1 a2 a3 a4 a5 b m e l2 l3 all seen x) (mlC (k + 1) a0 a1 a2 a3 a4 a5 b m e l2 l3 all seen x) := by
 unfold mlC
 exact LeO.ite (LeO.refl _) (LeO.ite (mlL.mono _ _ _ _ _ _ _ _ _ _ _ _ _ _ _ _) (LeO.refl _))
theorem mlB.mono (k : Nat) (a0 a1 a2 a3 a4 a5 b : Int) (l2 l3 : List (List Int)) (x : Bool) : LeO (mlB k a0 a1 a2 a3 a4 a5 b l2 l3 x) (mlB (k + 1) a0 a1 a2 a3 a4 a5 b l2 l3 x) := by
 unfold mlB
 exact LeO.ite (LeO.refl _) (LeO.ite (LeO.bind (laws_rangeRoom.mono _ _ _ _ _) (fun t => LeO.ite (LeO.bind (spec_RangeOf.mono _ _ _ _ _ _ _ _ _) (fun r1 => LeO.bind (spec_RangeOf.mono _ _ _ _ _ _ _ _ _) (fun r2 => LeO.bind (impl_AppendRange.mono _ _ _ _ _ _ _ _ _ _ _ _ _) (fun g => LeO.ite (LeO.bind (spec_RangeOf.mono _ _ _ _ _ _ _ _ _) (fun ra => LeO.bind (spec_SameRange.mono _ _ _ _ _ _ _) (fun s => mlC.mono _ _ _ _ _ _ _ _ _ _ _ _ _ _ _))) (mlC.mono _ _ _ _ _ _ _ _ _ _ _ _ _ _ _))))) (LeO.refl _))) (LeO.refl _))
theorem laws_FnRangeMergeLeaves.mono : ∀ a0 a1 a2 a3 a4 a5 a6 a7 a8 k, LeO (laws_FnRangeMergeLeaves.f k a0 a1 a2 a3 a4 a5 a6 a7 a8) (laws_FnRangeMergeLeaves.f (k + 1) a0 a1 a2 a3 a4 a5 a6 a7 a8) := by
 intro a0 a1 a2 a3 a4 a5 a6 a7 a8 k
 unfold laws_FnRangeMergeLeaves.f
 exact LeO.bind (laws_zzFits2.mono _ _) (fun t => LeO.ite (LeO.bind (laws_zzFits2.mono _ _) (fun t2 => mlB.mono _ _ _ _ _ _ _ _ _ _ _)) (mlB.mono _ _ _ _ _ _ _ _ _ _ _))

theorem mlbel {w w' : World} (hb : Below w.heap.size w w') {a : Addr} {v : Value} (hc : w.cell? a = some v) : w'.cell? a = some v := (hb.cell (World.block_lt_of_cell? w a hc)).trans hc

theorem s6_below {w w' : World} (hb : Below w.heap.size w w') {p0 p1 p2 p3 p4 p5 : Addr} {v0 v1 v2 v3 v4 v5 : Value} (h : w.cell? p0 = some v0 ∧ w.cell? p1 = some v1 ∧ w.cell? p2 = some v2 ∧ w.cell? p3 = some v3 ∧ w.cell? p4 = some v4 ∧ w.cell? p5 = some v5) : w'.cell? p0 = some v0 ∧ w'.cell? p1 = some v1 ∧ w'.cell? p2 = some v2 ∧ w'.cell? p3 = some v3 ∧ w'.cell? p4 = some v4 ∧ w'.cell? p5 = some v5 :=
 ⟨mlbel hb h.1, mlbel hb h.2.1, mlbel hb h.2.2.1, mlbel hb h.2.2.2.1, mlbel hb h.2.2.2.2.1, mlbel hb h.2.2.2.2.2⟩

theorem s6_far {w : World} {gh g j : Nat} {u : Value} (hn : gh ≠ g) {v0 v1 v2 v3 v4 v5 : Value} (h : w.cell? ⟨gh, 0, none⟩ = some v0 ∧ w.cell? ⟨gh, 1, none⟩ = some v1 ∧ w.cell? ⟨gh, 2, none⟩ = some v2 ∧ w.cell? ⟨gh, 3, none⟩ = some v3 ∧ w.cell? ⟨gh, 4, none⟩ = some v4 ∧ w.cell? ⟨gh, 5, none⟩ = some v5) : (w.setCell ⟨g, j, none⟩ u).cell? ⟨gh, 0, none⟩ = some v0 ∧ (w.setCell ⟨g, j, none⟩ u).cell? ⟨gh, 1, none⟩ = some v1 ∧ (w.setCell ⟨g, j, none⟩ u).cell? ⟨gh, 2, none⟩ = some v2 ∧ (w.setCell ⟨g, j, none⟩ u).cell? ⟨gh, 3, none⟩ = some v3 ∧ (w.setCell ⟨g, j, none⟩ u).cell? ⟨gh, 4, none⟩ = some v4 ∧ (w.setCell ⟨g, j, none⟩ u).cell? ⟨gh, 5, none⟩ = some v5 :=
 ⟨(cell_far hn u).trans h.1, (cell_far hn u).trans h.2.1, (cell_far hn u).trans h.2.2.1, (cell_far hn u).trans h.2.2.2.1, (cell_far hn u).trans h.2.2.2.2.1, (cell_far hn u).trans h.2.2.2.2.2⟩
theorem s3b {w w' : World} (hb : Below w.heap.size w w') {p0 p1 p2 : Addr} {v0 v1 v2 : Value} (h : w.cell? p0 = some v0 ∧ w.cell? p1 = some v1 ∧ w.cell? p2 = some v2) : w'.cell? p0 = some v0 ∧ w'.cell? p1 = some v1 ∧ w'.cell? p2 = some v2 :=
 ⟨mlbel hb h.1, mlbel hb h.2.1, mlbel hb h.2.2⟩
theorem s13_below {w w' : World} (hb : Below w.heap.size w w') {p0 p1 p2 p3 p4 p5 p6 p7 p8 p9 p10 p11 p12 : Addr} {v0 v1 v2 v3 v4 v5 v6 v7 v8 v9 v10 v11 v12 : Value} (h : (w.cell? p0 = some v0 ∧ w.cell? p1 = some v1 ∧ w.cell? p2 = some v2 ∧ w.cell? p3 = some v3 ∧ w.cell? p4 = some v4 ∧ w.cell? p5 = some v5) ∧ (w.cell? p6 = some v6 ∧ w.cell? p7 = some v7) ∧ (w.cell? p8 = some v8 ∧ w.cell? p9 = some v9) ∧ w.cell? p10 = some v10 ∧ w.cell? p11 = some v11 ∧ w.cell? p12 = some v12) : (w'.cell? p0 = some v0 ∧ w'.cell? p1 = some v1 ∧ w'.cell? p2 = some v2 ∧ w'.cell? p3 = some v3 ∧ w'.cell? p4 = some v4 ∧ w'.cell? p5 = some v5) ∧ (w'.cell? p6 = some v6 ∧ w'.cell? p7 = some v7) ∧ (w'.cell? p8 = some v8 ∧ w'.cell? p9 = some v9) ∧ w'.cell? p10 = some v10 ∧ w'.cell? p11 = some v11 ∧ w'.cell? p12 = some v12 :=
 ⟨s6_below hb h.1, ⟨mlbel hb h.2.1.1, mlbel hb h.2.1.2⟩, ⟨mlbel hb h.2.2.1.1, mlbel hb h.2.2.1.2⟩, s3b hb h.2.2.2⟩
theorem startN {P : Program} {ops : Array Oper} {Q : Exit → Act → World → Prop} {S : World → Prop} {id n : Nat} {a : Act} {w : World} (hm : P.follows .mixedOrders = true) (hn : ops.size = n) (hS : S w.drew)
  (h : wpAnyH P .any ops Q S n (Array.replicate n false) a w.drew) : (Code.region id ops true).wp P Q a w := by
 subst hn
 exact wp_region_held_drew hm hS (fun _ => h)
theorem takeN {P : Program} {md : Region.Mode} {ops : Array Oper} {Q : Exit → Act → World → Prop} {S : World → Prop} {i : Nat} {N : Option Tmp} {oi : Oper} {v : Value} {fuel : Nat} {listed : Array Bool} {a : Act} {w : World} (hi : ops[i]? = some oi) (hN : oi.dst = N)
  (hs : Region.noSelect ops = true) (hf : Region.free md ops listed i = true) (hr : (Region.ready md ops listed).contains i = true) (hQ : ∀ c a w, Q (.panic c) (a.put oi.dst v) w → Q (.panic c) a w) (hy : YieldsIf P ops S oi v a) (hS : S w)
  {a' : Act} (ha : a.put N v = a') (h : wpAnyH P md ops Q S fuel (listed.setIfInBounds i true) a' w) : wpAnyH P md ops Q S (fuel + 1) listed a w := by
 subst ha
 subst hN
 exact wpAnyH_take hi hs hf hr hQ hy hS h
theorem six_of {w : World} {gh : Nat} {v0 v1 v2 v3 v4 v5 : Value} (h : w.heap[gh]? = some (.cells #[v0, v1, v2, v3, v4, v5] 24 (0, 0))) : w.cell? ⟨gh, 0, none⟩ = some v0 ∧ w.cell? ⟨gh, 1, none⟩ = some v1 ∧ w.cell? ⟨gh, 2, none⟩ = some v2 ∧ w.cell? ⟨gh, 3, none⟩ = some v3 ∧ w.cell? ⟨gh, 4, none⟩ = some v4 ∧ w.cell? ⟨gh, 5, none⟩ = some v5 :=
 ⟨(blk_cell h 0).trans rfl, (blk_cell h 1).trans rfl, (blk_cell h 2).trans rfl, (blk_cell h 3).trans rfl, (blk_cell h 4).trans rfl, (blk_cell h 5).trans rfl⟩
theorem ml_end {w5 W : World} {g B : Nat} {A Av : Option Addr} {c cv : Nat} {hs : List (List Int)} {vs : List S60} {u0 u1 : Value} (hk : W.heap[g]? = some (.cells #[.int .u64 0, .int .u64 0, .slice none 0 0] 39 (0, 0)))
  (hS : Kd.S (Kd.slice 5 (Kd.int .u8)) 27 W B (fun _ => True) (.slice A hs.length c) hs) (hR : k60.R 60 W B (fun _ => True) (.slice Av vs.length cv) vs) (hB : Below w5.heap.size w5 W) (hg : w5.heap.size ≤ g) :
  (((W.setCell ⟨g, 0, none⟩ u0).setCell ⟨g, 1, none⟩ u1).setCell ⟨g, 2, none⟩ (.slice A hs.length c)).heap[g]? = some (.cells #[u0, u1, .slice A hs.length c] 39 (0, 0))
  ∧ (Kd.slice 5 (Kd.int .u8)).R 27 (((W.setCell ⟨g, 0, none⟩ u0).setCell ⟨g, 1, none⟩ u1).setCell ⟨g, 2, none⟩ (.slice A hs.length c)) B (fun _ => True) (.slice A hs.length c) hs
  ∧ k60.R 60 (((W.setCell ⟨g, 0, none⟩ u0).setCell ⟨g, 1, none⟩ u1).setCell ⟨g, 2, none⟩ (.slice A hs.length c)) B (fun _ => True) (.slice Av vs.length cv) vs
  ∧ Below w5.heap.size w5 (((W.setCell ⟨g, 0, none⟩ u0).setCell ⟨g, 1, none⟩ u1).setCell ⟨g, 2, none⟩ (.slice A hs.length c)) := by
 have k1 := blk_put hk 0 u0 rfl
 have k2 := blk_put k1 1 u1 rfl
 have k3 := blk_put k2 2 (.slice A hs.length c) rfl
 exact ⟨k3, Kd.R_set (Kd.R_set (Kd.R_set (Kd.S_R hS) hk (by decide) 0 u0) k1 (by decide) 1 u1) k2 (by decide) 2 _, Kd.R_set (Kd.R_set (Kd.R_set hR hk (by decide) 0 u0) k1 (by decide) 1 u1) k2 (by decide) 2 _, below_set (below_set (below_set hB hg) hg) hg⟩
theorem ml_end1 {w5 w8 W : World} {B : Nat} {A Av : Option Addr} {c cv : Nat} {hs : List (List Int)} {vs : List S60} {u0 u1 : Value} (hS : Kd.S (Kd.slice 5 (Kd.int .u8)) 27 w8 B (fun _ => True) (.slice A hs.length c) hs) (hR : k60.R 60 w8 B (fun _ => True) (.slice Av vs.length cv) vs) (hB : Below w5.heap.size w5 w8)
  (hW : W = w8.alloc (.cells #[u0, u1, .slice A hs.length c] 39)) :
  W.heap[w8.heap.size]? = some (.cells #[u0, u1, .slice A hs.length c] 39 (0, 0)) ∧ (Kd.slice 5 (Kd.int .u8)).R 27 W B (fun _ => True) (.slice A hs.length c) hs ∧ k60.R 60 W B (fun _ => True) (.slice Av vs.length cv) vs ∧ Below w5.heap.size w5 W := by
 subst hW
 exact ⟨blk_new _ _, Kd.R_alloc (Kd.S_R hS) _, Kd.R_alloc hR _, below_step hB (below_alloc (Below.refl _ _) _)⟩
set_option maxHeartbeats 16000000 in
set_option maxRecDepth 100000 in
theorem laws_FnRangeMergeLeaves.calls (k : Nat) (a0_0 : Int) (a0_1 : Int) (a0_2 : Int) (a0_3 : Int) (a0_4 : Int) (a0_5 : Int) (a1 : Int) (P2_ : Nat → Prop) (A2 : Option Addr) (c2 : Nat) (l2 : List (List Int)) (P3_ : Nat → Prop) (A3 : Option Addr) (c3 : Nat) (l3 : List (List Int)) (r : Bool) (w : World) (hT : TabOK w) (hs2 : Kd.V (Kd.slice 5 (Kd.int .u8)) 27 w w.heap.size (fun k_ => P2_ k_) (.slice A2 l2.length c2) l2) (hs3 : Kd.V (Kd.slice 5 (Kd.int .u8)) 27 w w.heap.size (fun k_ => P3_ k_) (.slice A3 l3.length c3) l3) (h : laws_FnRangeMergeLeaves.f k a0_0 a0_1 a0_2 a0_3 a0_4 a0_5 a1 l2 l3 = some r) :
  Calls Tryd.prog 7 #[.agg #[.int .i64 a0_0, .int .i64 a0_1, .int .i64 a0_2, .int .u64 a0_3, .int .u64 a0_4, .int .u64 a0_5], .int .u64 a1, .slice A2 l2.length c2, .slice A3 l3.length c3] w fun e w' => e = .returned (.bool r) ∧ Below w.heap.size w w' := by
 have hu24 := Tryd.underlying24
 have hu39 := Tryd.underlying39
 have hu54 := Tryd.underlying54
 have hu57 := Tryd.underlying57
 have HT := Aside0.mk hT
 clear hT
 have HO2 := Aside0.mk (show Kd.V (Kd.slice 5 (Kd.int .u8)) 27 w w.heap.size (fun k_ => ((P2_ k_ ∨ P3_ k_) ∨ w.heap.size ≤ k_)) (.slice A2 l2.length c2) l2 from Kd.V_mono hs2 (fun k_ hk => .inl (.inl hk)))
 have HO3 := Aside0.mk (show Kd.V (Kd.slice 5 (Kd.int .u8)) 27 w w.heap.size (fun k_ => ((P2_ k_ ∨ P3_ k_) ∨ w.heap.size ≤ k_)) (.slice A3 l3.length c3) l3 from Kd.V_mono hs3 (fun k_ hk => .inl (.inr hk)))
 have HB := Aside0.mk (Below.refl w.heap.size w)
 have HC5 := Aside0.mk h
 unfold laws_FnRangeMergeLeaves.f at HC5
 clear h
 go_enter Tryd.func7, Tryd.ntmps7
 go_upto_region 1 with (first | ((with_reducible refine gate_dst (N := 4) rfl ?_); (try (refine gate_guard (by rfl) ?_; dsimp only)); refine box_event ?hg (N := 4) ?hd (cs := #[.int .i64 a0_0, .int .i64 a0_1, .int .i64 a0_2, .int .u64 a0_3, .int .u64 a0_4, .int .u64 a0_5]) (t := 24) ?hr ?_; (case hd => rfl); (case hg => rfl); (case hr => first | (go_simp; done) | (go_simp; rfl)); intro gb266 hg w6 hbox hb; have n0_ := Aside0.mk (Kd.V_below (Kd.V_elderB (kV HO2.out) gb266 (Nat.le_of_eq hg.symm)) hb); have n1_ := Aside0.mk (Kd.V_below (Kd.V_elderB (kV HO3.out) gb266 (Nat.le_of_eq hg.symm)) hb); have n2_ := Aside0.mk (below_step bB hb); have n3_ := Aside0.mk (hbox); have n4_ := Aside0.mk ((by rw [hg]; exact (below_size bB) : w.heap.size ≤ gb266)); have n5_ := Aside0.mk ((by rw [hg]; exact (below_size bB) : w.heap.size ≤ gb266)); clear HO2; clear HO3; clear HB; have HO2 := n0_; have HO3 := n1_; have HB := n2_; have BK266 := n3_; have GW266 := n4_; have GE266 := n5_; clear n0_ n1_ n2_ n3_ n4_ n5_; clear hb hbox hg))
 (try simp only [Act.put, List.setIfInBounds_toArray, List.set_cons_zero, List.set_cons_succ])
 go_cut [25] (fun v25 wc => ∃ (x25_4 : Bool), v25 = .bool x25_4 ∧ Aside0 (mlB k a0_0 a0_1 a0_2 a0_3 a0_4 a0_5 a1 l2 l3 x25_4 = some r) ∧ Aside0 (Kd.V (Kd.slice 5 (Kd.int .u8)) 27 wc w.heap.size (fun k_ => ((P2_ k_ ∨ P3_ k_) ∨ w.heap.size ≤ k_) ∧ k_ ≠ gb266) (.slice A2 l2.length c2) l2) ∧ Aside0 (Kd.V (Kd.slice 5 (Kd.int .u8)) 27 wc w.heap.size (fun k_ => ((P2_ k_ ∨ P3_ k_) ∨ w.heap.size ≤ k_) ∧ k_ ≠ gb266) (.slice A3 l3.length c3) l3) ∧ Aside0 (wc.heap[gb266]? = some (.cells #[.int .i64 a0_0, .int .i64 a0_1, .int .i64 a0_2, .int .u64 a0_3, .int .u64 a0_4, .int .u64 a0_5] 24 (0, 0))) ∧ Aside0 (Below w.heap.size w wc))
 case first =>
  have H := HC5.out
  clear HC5
  replace H := Option.bind_eq_some_iff.mp H
  obtain ⟨t267, A70, H⟩ := H
  replace H : (if t267 = true then ((laws_zzFits2.f k l3).bind fun t268 => (mlB k a0_0 a0_1 a0_2 a0_3 a0_4 a0_5 a1 l2 l3 (!t268))) else (mlB k a0_0 a0_1 a0_2 a0_3 a0_4 a0_5 a1 l2 l3 true)) = some r := H
  have A7 := Aside0.mk A70
  clear A70
  by_cases c8 : t267 = true
  ·subst c8
   have H1 : ((laws_zzFits2.f k l3).bind fun t268 => (mlB k a0_0 a0_1 a0_2 a0_3 a0_4 a0_5 a1 l2 l3 (!t268))) = some r := by rw [if_pos rfl] at H; exact H
   clear H
   have H := H1
   clear H1
   replace H := Option.bind_eq_some_iff.mp H
   obtain ⟨t268, A90, H⟩ := H
   replace H : (mlB k a0_0 a0_1 a0_2 a0_3 a0_4 a0_5 a1 l2 l3 (!t268)) = some r := H
   have A9 := Aside0.mk A90
   clear A90
   have H' := Aside0.mk H
   clear H
   go_wp2_with (first | ((with_reducible refine gate_callee (f := 12) rfl ?_); refine goesL_ (some 19) rfl rfl Tryd.func12 (by kernel_rfl) rfl #[.slice A2 l2.length c2] rfl aV ?_; (with_reducible refine (laws_zzFits2.calls k _ _ l2 true _ ?side1 ?side2 A7.out).mono ?_); (case side1 => repeat (first | exact (Kd.V_reads' HO2.out).2.2 | (with_reducible refine Kd.C_alloc ?_ _) | (with_reducible refine Kd.C_drewN ?_ _) | (with_reducible refine Kd.C_drew ?_))); (case side2 => exact (Kd.V_reads' HO2.out).2.1); rintro e w' ⟨rfl, ⟨nd, rfl⟩⟩; refine ⟨_, rfl, ?_⟩) | (go_at_call 12; (with_reducible refine (laws_zzFits2.calls k _ _ l3 t268 _ ?side1 ?side2 A9.out).mono ?_); (case side1 => repeat (first | exact (Kd.V_reads' HO3.out).2.2 | (with_reducible refine Kd.C_alloc ?_ _) | (with_reducible refine Kd.C_drewN ?_ _) | (with_reducible refine Kd.C_drew ?_))); (case side2 => exact (Kd.V_reads' HO3.out).2.1); rintro e w' ⟨rfl, ⟨nd, rfl⟩⟩))
   go_meet
   case rel => exact ⟨(!t268), (by first | rfl | (simp; done) | (simp [*]; done)), H', ⟨kV HO2.out⟩, ⟨kV HO3.out⟩, ⟨by (with_reducible repeat (first | refine blk_drewN ?_ _ | refine blk_drew ?_ | refine blk_alloc ?_ _)); exact BK266.out⟩, ⟨bB⟩⟩
  ·replace c8 := Bool.eq_false_iff.mpr c8
   subst c8
   have H1 : (mlB k a0_0 a0_1 a0_2 a0_3 a0_4 a0_5 a1 l2 l3 true) = some r := by rw [if_neg (show ¬ (false = true) by decide)] at H; exact H
   clear H
   have H := H1
   clear H1
   have H' := Aside0.mk H
   clear H
   go_wp2_with (first | ((with_reducible refine gate_callee (f := 12) rfl ?_); refine goesL_ (some 19) rfl rfl Tryd.func12 (by kernel_rfl) rfl #[.slice A2 l2.length c2] rfl aV ?_; (with_reducible refine (laws_zzFits2.calls k _ _ l2 false _ ?side1 ?side2 A7.out).mono ?_); (case side1 => repeat (first | exact (Kd.V_reads' HO2.out).2.2 | (with_reducible refine Kd.C_alloc ?_ _) | (with_reducible refine Kd.C_drewN ?_ _) | (with_reducible refine Kd.C_drew ?_))); (case side2 => exact (Kd.V_reads' HO2.out).2.1); rintro e w' ⟨rfl, ⟨nd, rfl⟩⟩; refine ⟨_, rfl, ?_⟩))
   go_meet
   case rel => exact ⟨(true), (by first | rfl | (simp; done) | (simp [*]; done)), H', ⟨kV HO2.out⟩, ⟨kV HO3.out⟩, ⟨by (with_reducible repeat (first | refine blk_drewN ?_ _ | refine blk_drew ?_ | refine blk_alloc ?_ _)); exact BK266.out⟩, ⟨bB⟩⟩
 case rest =>
  clear HC5
  obtain ⟨x25_4, rfl, HA, HO_2, HO_3, BK266, HB⟩ := hcut
  have hA := HA.out
  clear HA
  unfold mlB at hA
  by_cases c10 : x25_4 = true
  ·subst c10
   rw [if_pos rfl] at hA
   obtain rfl := Option.some.inj hA
   go_wp2
   go_ret
   exact ⟨rfl, HB.out⟩
  ·rw [if_neg c10] at hA
   replace c10 := Bool.eq_false_iff.mpr c10
   subst c10
   by_cases c11 : l2.length + l3.length < 5864062014805
   case neg => rw [if_neg c11] at hA; exact absurd hA (by simp)
   rw [if_pos c11] at hA
   obtain ⟨y269, hy269⟩ : ∃ y_ : List (List Int), y_ = (([] : List (List Int))) := ⟨_, rfl⟩
   obtain ⟨y272, hy272⟩ : ∃ y_ : List (List Int), y_ = (y269 ++ l2) := ⟨_, rfl⟩
   obtain ⟨y275, hy275⟩ : ∃ y_ : List (List Int), y_ = (y272 ++ l3) := ⟨_, rfl⟩
   have hall : l2 ++ l3 = y275 := by rw [hy275, hy272, hy269, List.nil_append]
   rw [hall] at hA
   obtain ⟨t278, hroom, hA⟩ := Option.bind_eq_some_iff.mp hA
   have A13 := Aside0.mk hroom
   have HA := Aside0.mk hA
   have LMc11 := Aside0.mk (show y269.length + l2.length < 5864062014805 by rw [hy269, List.length_nil]; omega)
   have LMc12 := Aside0.mk (show y272.length + l3.length < 5864062014805 by rw [hy272, List.length_append, hy269, List.length_nil]; omega)
   have Ny269 := Aside0.mk hy269
   have Ny272 := Aside0.mk hy272
   have Ny275 := Aside0.mk hy275
   clear hroom hA hy269 hy272 hy275 hall c11
   go_upto_region 3 with (fail)
   generalize wc = wa at *
   go_cut [9] (fun v9 wc => ∃ (A9 : Option Addr) (c9 : Nat), v9 = .slice A9 y275.length c9 ∧ Aside0 (Kd.V (Kd.slice 5 (Kd.int .u8)) 27 wc w.heap.size (fun _ => True) (.slice A9 y275.length c9) y275) ∧ Aside0 (wc.heap[gb266]? = some (.cells #[.int .i64 a0_0, .int .i64 a0_1, .int .i64 a0_2, .int .u64 a0_3, .int .u64 a0_4, .int .u64 a0_5] 24 (0, 0))) ∧ Aside0 (Below w.heap.size w wc))
   case first =>
    go_wp2_with (first | ((with_reducible refine gate_dst (N := 26) rfl ?_); (try (refine gate_guard (by rfl) ?_; dsimp only)); refine Kd.N_lit (Kd.slice 5 (Kd.int .u8)) _ 27 ?hg (N' := 26) ?hd (xs := ([] : List (List Int))) (inner := []) (ok := (fun k_ => ((P2_ k_ ∨ P3_ k_) ∨ w.heap.size ≤ k_) ∧ k_ ≠ gb266)) (okp := (fun k_ => ((P2_ k_ ∨ P3_ k_) ∨ w.heap.size ≤ k_) ∧ k_ ≠ gb266)) ?hr ?hp (fun _ hk => hk) ((show ∀ k_, wa.heap.size ≤ k_ → (fun k_ => ((P2_ k_ ∨ P3_ k_) ∨ w.heap.size ≤ k_) ∧ k_ ≠ gb266) k_ from fun k_ hk => ⟨(.inr (Nat.le_trans (below_size bB) hk)), Kd.freshB (g := gb266) (o := .cells #[.int .i64 a0_0, .int .i64 a0_1, .int .i64 a0_2, .int .u64 a0_3, .int .u64 a0_4, .int .u64 a0_5] 24 (0, 0)) (kB BK266.out) k_ hk⟩) _ (Nat.le_refl _)) (Below.refl _ _) (Nat.le_refl _) (by simp) ?_; (case hd => rfl); (case hg => rfl); (case hr => first | (go_simp; done) | (go_simp; rfl)); (case hp => exact (Reps.none _ _)); intro v270 w19 ho20 hb hg_ hnew_; clear hg_ hnew_; (first | rw [← Ny269.out] at ho20 | (simp only [Int.reduceToNat] at ho20; rw [← Ny269.out] at ho20)); have n0_ := Aside0.mk (Kd.V_elder' (kV HO_2.out) (Kd.N_base ho20) hb); have n1_ := Aside0.mk (Kd.V_elder' (kV HO_3.out) (Kd.N_base ho20) hb); have n2_ := Aside0.mk (Kd.N_lower ho20 (below_size bB)); have n3_ := Aside0.mk (blk_below (g := gb266) (o := .cells #[.int .i64 a0_0, .int .i64 a0_1, .int .i64 a0_2, .int .u64 a0_3, .int .u64 a0_4, .int .u64 a0_5] 24 (0, 0)) (kB BK266.out) hb); have n4_ := Aside0.mk (below_step bB hb); clear HO_2; clear HO_3; clear BK266; clear HB; have HO_2 := n0_; have HO_3 := n1_; have HO271 := n2_; have BK266 := n3_; have HB := n4_; clear n0_ n1_ n2_ n3_ n4_; clear hb ho20) | ((with_reducible refine gate_builtin (b := .append) (xs := #[.tmp 26, .tmp 27]) rfl ?_); (try (refine gate_guard (by rfl) ?_; dsimp only)); at_builtin; refine Kd.N_append_rows (Kd.slice 5 (Kd.int .u8)) (w0 := w) w.heap.size rfl (.tmp 26) (.tmp 27) 25 27 (.slice none 0 0) 24 rfl Tryd.underlying25 info27 rfl (by decide) (by omega) v270 y269 l2 _ _ _ (fun k_ => ((P2_ k_ ∨ P3_ k_) ∨ w.heap.size ≤ k_) ∧ k_ ≠ gb266) (fun k_ => ((fun k_ => ((P2_ k_ ∨ P3_ k_) ∨ w.heap.size ≤ k_) ∧ k_ ≠ gb266)) k_ ∧ some k_ ≠ (v270 : Value).ownBlock) rfl rfl ?aO ?aR (fun _ hk => hk) ?aF ?aB ?aS ?aL ?_; (case aR => exact (by skip; exact Kd.V_F (Kd.V_mono (ok' := (fun k_ => ((fun k_ => ((P2_ k_ ∨ P3_ k_) ∨ w.heap.size ≤ k_) ∧ k_ ≠ gb266)) k_ ∧ some k_ ≠ (v270 : Value).ownBlock)) (HO_2.out) (fun k_ hk => ⟨⟨hk.1.1, hk.1.2⟩, hk.2⟩)))); (case aB => exact bB); (case aF => exact (fun k_ hk => ⟨(.inr (Nat.le_trans (below_size bB) hk)), Kd.freshB (g := gb266) (o := .cells #[.int .i64 a0_0, .int .i64 a0_1, .int .i64 a0_2, .int .u64 a0_3, .int .u64 a0_4, .int .u64 a0_5] 24 (0, 0)) (kB BK266.out) k_ hk⟩)); (case aO => exact (by (with_reducible repeat (first | apply Kd.N_alloc | apply Kd.N_drewN | apply Kd.N_drew)); exact HO271.out)); (case aS => exact (below_size bB)); (case aL => have := LMc11.out; omega); intro v273 w21 ho hb hg hat; rw [← Ny272.out] at ho; have n0_ := Aside0.mk (Kd.V_afterv (ok := (fun k_ => ((P2_ k_ ∨ P3_ k_) ∨ w.heap.size ≤ k_) ∧ k_ ≠ gb266)) (kV HO_2.out) hg hat); have n1_ := Aside0.mk (Kd.V_afterv (ok := (fun k_ => ((P2_ k_ ∨ P3_ k_) ∨ w.heap.size ≤ k_) ∧ k_ ≠ gb266)) (kV HO_3.out) hg hat); have n2_ := Aside0.mk (blk_grown (g := gb266) (o := .cells #[.int .i64 a0_0, .int .i64 a0_1, .int .i64 a0_2, .int .u64 a0_3, .int .u64 a0_4, .int .u64 a0_5] 24 (0, 0)) (kB BK266.out) hg (Kd.N_ne HO271.out BK266.out (by decide))); have n3_ := Aside0.mk (hb); have n4_ := Aside0.mk (ho); clear HO_2; clear HO_3; clear BK266; clear HB; clear HO271; have HO_2 := n0_; have HO_3 := n1_; have BK266 := n2_; have HB := n3_; have HO274 := n4_; clear n0_ n1_ n2_ n3_ n4_; clear ho hb hg hat) | ((with_reducible refine gate_builtin (b := .append) (xs := #[.tmp 28, .tmp 29]) rfl ?_); (try (refine gate_guard (by rfl) ?_; dsimp only)); at_builtin; refine Kd.N_append_rows (Kd.slice 5 (Kd.int .u8)) (w0 := w) w.heap.size rfl (.tmp 28) (.tmp 29) 25 27 (.slice none 0 0) 24 rfl Tryd.underlying25 info27 rfl (by decide) (by omega) v273 y272 l3 _ _ _ (fun k_ => ((P2_ k_ ∨ P3_ k_) ∨ w.heap.size ≤ k_) ∧ k_ ≠ gb266) (fun k_ => ((fun k_ => ((P2_ k_ ∨ P3_ k_) ∨ w.heap.size ≤ k_) ∧ k_ ≠ gb266)) k_ ∧ some k_ ≠ (v273 : Value).ownBlock) rfl rfl ?aO ?aR (fun _ hk => hk) ?aF ?aB ?aS ?aL ?_; (case aR => exact (by skip; exact Kd.V_F (Kd.V_mono (ok' := (fun k_ => ((fun k_ => ((P2_ k_ ∨ P3_ k_) ∨ w.heap.size ≤ k_) ∧ k_ ≠ gb266)) k_ ∧ some k_ ≠ (v273 : Value).ownBlock)) (HO_3.out) (fun k_ hk => ⟨⟨hk.1.1, hk.1.2⟩, hk.2⟩)))); (case aB => exact bB); (case aF => exact (fun k_ hk => ⟨(.inr (Nat.le_trans (below_size bB) hk)), Kd.freshB (g := gb266) (o := .cells #[.int .i64 a0_0, .int .i64 a0_1, .int .i64 a0_2, .int .u64 a0_3, .int .u64 a0_4, .int .u64 a0_5] 24 (0, 0)) (kB BK266.out) k_ hk⟩)); (case aO => exact (by (with_reducible repeat (first | apply Kd.N_alloc | apply Kd.N_drewN | apply Kd.N_drew)); exact HO274.out)); (case aS => exact (below_size bB)); (case aL => have := LMc12.out; omega); intro v276 w22 ho hb hg hat; rw [← Ny275.out] at ho; have n0_ := Aside0.mk (Kd.V_afterv (ok := (fun k_ => ((P2_ k_ ∨ P3_ k_) ∨ w.heap.size ≤ k_) ∧ k_ ≠ gb266)) (kV HO_2.out) hg hat); have n1_ := Aside0.mk (Kd.V_afterv (ok := (fun k_ => ((P2_ k_ ∨ P3_ k_) ∨ w.heap.size ≤ k_) ∧ k_ ≠ gb266)) (kV HO_3.out) hg hat); have n2_ := Aside0.mk (blk_grown (g := gb266) (o := .cells #[.int .i64 a0_0, .int .i64 a0_1, .int .i64 a0_2, .int .u64 a0_3, .int .u64 a0_4, .int .u64 a0_5] 24 (0, 0)) (kB BK266.out) hg (Kd.N_ne HO274.out BK266.out (by decide))); have n3_ := Aside0.mk (hb); have n4_ := Aside0.mk (ho); clear HO_2; clear HO_3; clear BK266; clear HB; clear HO274; have HO_2 := n0_; have HO_3 := n1_; have BK266 := n2_; have HB := n3_; have HO277 := n4_; clear n0_ n1_ n2_ n3_ n4_; clear ho hb hg hat))
    obtain ⟨A9, c9, rfl⟩ := Kd.N_slice HO277.out
    go_meet
    case rel => exact ⟨A9, c9, rfl, ⟨Kd.V_mono (Kd.N_V HO277.out) (fun _ _ => trivial)⟩, BK266, HB⟩
   case rest =>
    obtain ⟨A9, c9, rfl, HV9, HK9, HB9⟩ := hcut
    clear HO_2 HO_3 BK266 HB
    have hA := HA.out
    clear HA
    by_cases c14 : t278 = true
    case neg =>
     rw [if_neg c14] at hA
     replace c14 := Bool.eq_false_iff.mpr c14
     subst c14
     obtain rfl := Option.some.inj hA
     go_wp2_with (go_at_call 22; (refine (laws_rangeRoom.calls k a1 a1 _ _ ([] : List (List Int)) _ _ y275 _ _ ?side1 ?side2 ?side3 ?side4 A13.out).mono ?_); (case side1 => exact Kd.C_nil _ _); (case side2 => exact Nat.le_refl _); (case side3 => exact (Kd.V_reads' HV9.out).2.2); (case side4 => exact (Kd.V_reads' HV9.out).2.1); rintro e w24 ⟨rfl, hb⟩; have HBr := Aside0.mk hb; clear hb)
     go_ret
     exact ⟨rfl, below_step HB9.out HBr.out⟩
    case pos =>
     subst c14
     rw [if_pos rfl] at hA
     obtain ⟨⟨t279, t280, t281⟩, A150, hA⟩ := Option.bind_eq_some_iff.mp hA
     obtain ⟨⟨t284, t285, t286⟩, A160, hA⟩ := Option.bind_eq_some_iff.mp hA
     obtain ⟨⟨t289, t290, t291, t294, t297⟩, A170, hA⟩ := Option.bind_eq_some_iff.mp hA
     dsimp only at A170 hA
     have A15 := Aside0.mk A150
     have A16 := Aside0.mk A160
     have A17 := Aside0.mk A170
     have HA := Aside0.mk hA
     clear A150 A160 A170 hA
     go_upto_region 7 with (go_at_call 22; (refine (laws_rangeRoom.calls k a1 a1 _ _ ([] : List (List Int)) _ _ y275 _ _ ?side1 ?side2 ?side3 ?side4 A13.out).mono ?_); (case side1 => exact Kd.C_nil _ _); (case side2 => exact Nat.le_refl _); (case side3 => exact (Kd.V_reads' HV9.out).2.2); (case side4 => exact (Kd.V_reads' HV9.out).2.1); rintro e w24 ⟨rfl, hb⟩; have HBr := Aside0.mk hb; clear hb)
     have HB5 := Aside0.mk (below_step HB9.out HBr.out : Below w.heap.size w w24)
     have HK5 := Aside0.mk (blk_below HK9.out HBr.out)
     have HV5 := Aside0.mk (Kd.V_below HV9.out HBr.out)
     have HS2 := Aside0.mk hs2
     have HS3 := Aside0.mk hs3
     clear HB9 HK9 HV9 HBr hs2 hs3 HO2 HO3 HB BK266 A13 LMc11 LMc12 GE266 GW266
     generalize w24 = w5 at *
     generalize wc = w4 at *
     have HX5 := Aside0.mk (show (w5.alloc (.cells #[.int .u64 0, .int .u64 0, .slice none 0 0] 39)).drew.heap[w5.heap.size]? = some (.cells #[.int .u64 0, .int .u64 0, .slice none 0 0] 39 (0, 0)) from blk_new w5 _)
     have HGH := Aside0.mk (blk_lt HK5.out)
     have HS5 := Aside0.mk (six_of HK5.out)
     obtain ⟨q0, q1, q2, q3, q4, q5⟩ := HS5.out
     go_cut [12, 13, 14] from 47 to 60 (fun v12 v13 v14 wc => ∃ (gr : Nat) (A8 Av : Option Addr) (c8 cv B8 : Nat), v12 = .pointer (some ⟨gr, 0, none⟩) ∧ v13 = .slice Av t294.length cv ∧ v14 = .bool t297 ∧ Aside0 (wc.heap[gr]? = some (.cells #[.int .u64 t289, .int .u64 t290, .slice A8 t291.length c8] 39 (0, 0)) ∧ (Kd.slice 5 (Kd.int .u8)).R 27 wc B8 (fun _ => True) (.slice A8 t291.length c8) t291 ∧ k60.R 60 wc B8 (fun _ => True) (.slice Av t294.length cv) t294 ∧ Below w5.heap.size w5 wc))
     case first =>
      go_region_held3 (fun w' => w'.cell? ⟨gb266, 0, none⟩ = some (.int .i64 a0_0) ∧ w'.cell? ⟨gb266, 1, none⟩ = some (.int .i64 a0_1) ∧ w'.cell? ⟨gb266, 2, none⟩ = some (.int .i64 a0_2) ∧ w'.cell? ⟨gb266, 3, none⟩ = some (.int .u64 a0_3) ∧ w'.cell? ⟨gb266, 4, none⟩ = some (.int .u64 a0_4) ∧ w'.cell? ⟨gb266, 5, none⟩ = some (.int .u64 a0_5)) (first | (with_reducible first | exact HS8.out | exact HS7.out | exact HS6.out | exact s6_below (below_alloc (Below.refl _ _) _) HS8.out | exact s6_below (below_alloc (Below.refl _ _) _) HS7.out | exact s6_below (below_alloc (Below.refl _ _) _) HS6.out | exact s6_below (below_drew (below_alloc (Below.refl _ _) _)) HS5.out | exact s6_far HN8.out (s6_far HN8.out (s6_far HN8.out HS8.out))) | go_keep)
       (first | (go_at_call 28; (with_reducible refine (spec_RangeOf.calls k a0_0 a0_1 a0_2 a0_3 a0_4 a0_5 a1 P2_ A2 c2 l2 t279 t280 t281 _ ?side1 A15.out).mono ?_); (case side1 => exact Kd.V_below HS2.out (below_step HB5.out (by (with_reducible first | exact below_drew (Below.refl w5.heap.size w5) | exact below_drew (below_alloc (Below.refl w5.heap.size w5) _))))); rintro e' w6 ⟨v6, rfl, ho, hb⟩; obtain ⟨A6, c6, rfl⟩ := Kd.N_slice ho; have HB6 := Aside0.mk (below_step (by (with_reducible first | exact below_drew (Below.refl w5.heap.size w5) | exact below_drew (below_alloc (Below.refl w5.heap.size w5) _))) hb : Below w5.heap.size w5 w6); have HS6 := Aside0.mk (s6_below HB6.out HS5.out); have X6 := Aside0.mk (Kd.N_reads' ho).2; (first | ((with_reducible have hk := blk_below HX5.out hb); have HK6 := Aside0.mk hk; have HN6 := Aside0.mk (Ne.intro (blk_ne (blk_below HK5.out HB6.out) hk (by decide))); have fz0 := blk_frozen hk 0; have fz1 := blk_frozen hk 1; have fz2 := blk_frozen hk 2; have cl0 := (blk_cell hk 0).trans (show _ = some (Value.int .u64 0) from rfl); have cl1 := (blk_cell hk 1).trans (show _ = some (Value.int .u64 0) from rfl); have cl2 := (blk_cell hk 2).trans (show _ = some (Value.slice none 0 0) from rfl); clear hk) | skip); clear ho hb) | (go_at_call 28; (with_reducible refine (spec_RangeOf.calls k a0_0 a0_1 a0_2 a0_3 a0_4 a0_5 (IntKind.u64.wrap (a1 + (IntKind.u64.wrap ((l2.length : Int))))) P3_ A3 c3 l3 t284 t285 t286 _ ?side1 A16.out).mono ?_); (case side1 => exact Kd.V_below HS3.out (below_step HB5.out (by (with_reducible first | exact HB6.out | exact below_alloc HB6.out _)))); rintro e' w7 ⟨v7, rfl, ho, hb⟩; obtain ⟨A7, c7, rfl⟩ := Kd.N_slice ho; have HB7 := Aside0.mk (below_step (by (with_reducible first | exact HB6.out | exact below_alloc HB6.out _)) hb : Below w5.heap.size w5 w7); have HS7 := Aside0.mk (s6_below HB7.out HS5.out); have X7 := Aside0.mk (Kd.N_reads' ho).2; have X67 := Aside0.mk (Kd.C_below (by first | exact X6.out.2 | exact Kd.C_alloc X6.out.2 _ : Kd.C (Kd.slice 5 (Kd.int .u8)) _ A6 t281.length t281) hb); (first | ((with_reducible have hk := blk_below HK6.out hb); have HK7 := Aside0.mk hk; have HN7 := Aside0.mk (Ne.intro (blk_ne (blk_below HK5.out HB7.out) hk (by decide))); have fz0 := blk_frozen hk 0; have fz1 := blk_frozen hk 1; have fz2 := blk_frozen hk 2; have cl0 := (blk_cell hk 0).trans (show _ = some (Value.int .u64 0) from rfl); have cl1 := (blk_cell hk 1).trans (show _ = some (Value.int .u64 0) from rfl); have cl2 := (blk_cell hk 2).trans (show _ = some (Value.slice none 0 0) from rfl); clear hk) | ((with_reducible have hk := blk_below (blk_new w6 (.cells #[.int .u64 0, .int .u64 0, .slice none 0 0] 39)) hb); have HK7 := Aside0.mk hk; have HN7 := Aside0.mk (Ne.intro (blk_ne (blk_below HK5.out HB7.out) hk (by decide))); have fz0 := blk_frozen hk 0; have fz1 := blk_frozen hk 1; have fz2 := blk_frozen hk 2; have cl0 := (blk_cell hk 0).trans (show _ = some (Value.int .u64 0) from rfl); have cl1 := (blk_cell hk 1).trans (show _ = some (Value.int .u64 0) from rfl); have cl2 := (blk_cell hk 2).trans (show _ = some (Value.slice none 0 0) from rfl); clear hk) | skip); clear ho hb) | (go_at_call 27; (with_reducible refine (impl_AppendRange.calls k a0_0 a0_1 a0_2 a0_3 a0_4 a0_5 t279 t280 A6 c6 t281 t284 t285 A7 c7 t286 t289 t290 t291 t294 t297 _ ?side0 ?side1 ?side2 ?side3 ?side4 A17.out).mono ?_); (case side0 => exact TabOK.below HT.out (below_step HB5.out (by (with_reducible first | exact HB7.out | exact below_alloc HB7.out _)))); (case side1 => first | exact X67.out | exact Kd.C_alloc X67.out _); (case side2 => exact X6.out.1); (case side3 => first | exact X7.out.2 | exact Kd.C_alloc X7.out.2 _); (case side4 => exact X7.out.1); rintro e' w8 ⟨v8, u8_, rfl, ho0, ho1, hb⟩; obtain ⟨A8, c8, rfl⟩ := Kd.S_slice ho0; obtain ⟨Av, cv, rfl⟩ := Kd.R_slice ho1; have HB8 := Aside0.mk (below_step (by (with_reducible first | exact HB7.out | exact below_alloc HB7.out _)) hb : Below w5.heap.size w5 w8); have HS8 := Aside0.mk (s6_below HB8.out HS5.out); have X8 := Aside0.mk ho0; have Y8 := Aside0.mk ho1; (first | ((with_reducible have hk := blk_below HK7.out hb); have HK8 := Aside0.mk hk; have HN8 := Aside0.mk (Ne.intro (blk_ne (blk_below HK5.out HB8.out) hk (by decide))); have fz0 := blk_frozen hk 0; have fz1 := blk_frozen hk 1; have fz2 := blk_frozen hk 2; have cl0 := (blk_cell hk 0).trans (show _ = some (Value.int .u64 0) from rfl); have cl1 := (blk_cell hk 1).trans (show _ = some (Value.int .u64 0) from rfl); have cl2 := (blk_cell hk 2).trans (show _ = some (Value.slice none 0 0) from rfl); clear hk) | ((with_reducible have hk := blk_below (blk_new w7 (.cells #[.int .u64 0, .int .u64 0, .slice none 0 0] 39)) hb); have HK8 := Aside0.mk hk; have HN8 := Aside0.mk (Ne.intro (blk_ne (blk_below HK5.out HB8.out) hk (by decide))); have fz0 := blk_frozen hk 0; have fz1 := blk_frozen hk 1; have fz2 := blk_frozen hk 2; have cl0 := (blk_cell hk 0).trans (show _ = some (Value.int .u64 0) from rfl); have cl1 := (blk_cell hk 1).trans (show _ = some (Value.int .u64 0) from rfl); have cl2 := (blk_cell hk 2).trans (show _ = some (Value.slice none 0 0) from rfl); clear hk) | skip); clear ho0 ho1 hb))
      all_goals
       go_wp2
       go_meet
       case rel =>
        first
        | exact ⟨_, _, _, _, _, _, rfl, rfl, rfl, ⟨ml_end1 X8.out Y8.out HB8.out rfl⟩⟩
        | exact ⟨_, _, _, _, _, _, rfl, rfl, rfl, ⟨ml_end HK8.out X8.out Y8.out HB8.out (by first | exact HB7.out.size | exact HB6.out.size | exact Nat.le_refl _)⟩⟩
     case rest =>
      obtain ⟨gr, A8, Av, c8, cv, B8, rfl, rfl, rfl, HP⟩ := hcut
      clear q0 q1 q2 q3 q4 q5
      generalize wc = w8 at *
      have HB8 := Aside0.mk (below_step HB5.out HP.out.2.2.2 : Below w.heap.size w w8)
      have HK8 := Aside0.mk (blk_below HK5.out HP.out.2.2.2)
      have HV8 := Aside0.mk (Kd.V_below HV5.out HP.out.2.2.2)
      have HS8 := Aside0.mk (six_of HK8.out)
      have HS38 := Aside0.mk (show w8.cell? ⟨gr, 0, none⟩ = some (.int .u64 t289) ∧ w8.cell? ⟨gr, 1, none⟩ = some (.int .u64 t290) ∧ w8.cell? ⟨gr, 2, none⟩ = some (.slice A8 t291.length c8) from ⟨(blk_cell HP.out.1 0).trans rfl, (blk_cell HP.out.1 1).trans rfl, (blk_cell HP.out.1 2).trans rfl⟩)
      obtain ⟨q0, q1, q2, q3, q4, q5⟩ := HS8.out
      obtain ⟨q6, q7, q8⟩ := HS38.out
      clear HB5 HK5 HV5 HS5 HX5 HGH HS2 HS3 A15 A16 A17
      go_upto_region 8 with (fail)
      go_cut [71] from 61 to 71 (fun v71 wc => ∃ x71 : Bool, v71 = .bool x71 ∧ Aside0 (mlC k a0_0 a0_1 a0_2 a0_3 a0_4 a0_5 a1 (IntKind.u64.wrap (a1 + (IntKind.u64.wrap ((l2.length : Int))))) (IntKind.u64.wrap (a1 + (IntKind.u64.wrap ((y275.length : Int))))) l2 l3 y275 t294 x71 = some r) ∧ Aside0 (Below w8.heap.size w8 wc))
      case first =>
       have hA := HA.out
       clear HA
       by_cases c15 : t297 = true
       ·subst c15
        rw [if_pos rfl] at hA
        obtain ⟨⟨t299, t300, t301⟩, A300, hA⟩ := Option.bind_eq_some_iff.mp hA
        obtain ⟨t304, A310, hA⟩ := Option.bind_eq_some_iff.mp hA
        dsimp only at A310 hA
        have A30 := Aside0.mk A300
        have A31 := Aside0.mk A310
        have HA := Aside0.mk hA
        clear A300 A310 hA
        go_region_held3 (fun w' => (w'.cell? ⟨gb266, 0, none⟩ = some (.int .i64 a0_0) ∧ w'.cell? ⟨gb266, 1, none⟩ = some (.int .i64 a0_1) ∧ w'.cell? ⟨gb266, 2, none⟩ = some (.int .i64 a0_2) ∧ w'.cell? ⟨gb266, 3, none⟩ = some (.int .u64 a0_3) ∧ w'.cell? ⟨gb266, 4, none⟩ = some (.int .u64 a0_4) ∧ w'.cell? ⟨gb266, 5, none⟩ = some (.int .u64 a0_5)) ∧ w'.cell? ⟨gr, 0, none⟩ = some (.int .u64 t289) ∧ w'.cell? ⟨gr, 1, none⟩ = some (.int .u64 t290) ∧ w'.cell? ⟨gr, 2, none⟩ = some (.slice A8 t291.length c8)) (first | (with_reducible first | exact HS10.out | exact HS9.out) | go_keep)
         (first | (go_at_call 28; (with_reducible refine (spec_RangeOf.calls k a0_0 a0_1 a0_2 a0_3 a0_4 a0_5 a1 (fun _ => True) A9 c9 y275 t299 t300 t301 _ ?side1 A30.out).mono ?_); (case side1 => first | exact Kd.V_drew HV8.out | exact HV8.out); rintro e' w9 ⟨v9, rfl, ho, hb⟩; obtain ⟨A10, c10, rfl⟩ := Kd.N_slice ho; have HB9 := Aside0.mk (below_step (by (with_reducible first | exact below_drew (Below.refl w8.heap.size w8) | exact Below.refl _ _)) hb : Below w8.heap.size w8 w9); have HS9 := Aside0.mk (And.intro (s6_below HB9.out HS8.out) (s3b HB9.out HS38.out)); have X9 := Aside0.mk (Kd.N_reads' ho).2; clear ho hb) | (go_at_call 25; (with_reducible refine (spec_SameRange.calls k t289 t290 A8 c8 t291 t299 t300 A10 c10 t301 t304 _ ?side1 ?side2 ?side3 ?side4 A31.out).mono ?_); (case side1 => exact Kd.C_below (Kd.R_reads' HP.out.2.1).2.2 HB9.out); (case side2 => exact (Kd.R_reads' HP.out.2.1).2.1); (case side3 => exact X9.out.2); (case side4 => exact X9.out.1); rintro e' w10 ⟨rfl, hb⟩; have HB10 := Aside0.mk (below_step HB9.out hb : Below w8.heap.size w8 w10); have HS10 := Aside0.mk (And.intro (s6_below HB10.out HS8.out) (s3b HB10.out HS38.out)); clear hb))
        all_goals
         go_wp2
         go_meet
         case rel => exact ⟨_, rfl, HA, HB10⟩
       ·rw [if_neg c15] at hA
        replace c15 := Bool.eq_false_iff.mpr c15
        subst c15
        have HA := Aside0.mk hA
        clear hA
        refine startN (n := 11) (S := fun _ => True) (by kernel_rfl) rfl trivial ?_
        refine takeN (i := 0) (N := some 61) (v := ?_) (a' := ?_) rfl rfl (by kernel_rfl) (by kernel_rfl) (by kernel_rfl) (fun _ _ _ h => h) (Or.inl ⟨by rfl, ?hy0⟩) trivial ?ha0 ?h0
        case hy0 => (intro w' hSw; go_simp <;> with_reducible rfl)
        case ha0 => (simp only [Act.put, List.setIfInBounds_toArray, List.set_cons_zero, List.set_cons_succ, i64_w, i32_w]; rfl)
        refine takeN (i := 1) (N := some 62) (v := ?_) (a' := ?_) rfl rfl (by kernel_rfl) (by kernel_rfl) (by kernel_rfl) (fun _ _ _ h => h) (Or.inl ⟨by rfl, ?hy1⟩) trivial ?ha1 ?h1
        case hy1 => (intro w' hSw; go_simp <;> with_reducible rfl)
        case ha1 => (simp only [Act.put, List.setIfInBounds_toArray, List.set_cons_zero, List.set_cons_succ, i64_w, i32_w]; rfl)
        refine takeN (i := 2) (N := some 63) (v := ?_) (a' := ?_) rfl rfl (by kernel_rfl) (by kernel_rfl) (by kernel_rfl) (fun _ _ _ h => h) (Or.inl ⟨by rfl, ?hy2⟩) trivial ?ha2 ?h2
        case hy2 => (intro w' hSw; go_simp <;> with_reducible rfl)
        case ha2 => (simp only [Act.put, List.setIfInBounds_toArray, List.set_cons_zero, List.set_cons_succ, i64_w, i32_w]; rfl)
        refine takeN (i := 3) (N := some 64) (v := undef) (a' := ?_) rfl rfl (by kernel_rfl) (by kernel_rfl) (by kernel_rfl) (fun _ _ _ h => h) (Or.inr ⟨by rfl, rfl⟩) trivial ?ha3 ?h3
        case ha3 => (simp only [Act.put, List.setIfInBounds_toArray, List.set_cons_zero, List.set_cons_succ, i64_w, i32_w]; rfl)
        refine takeN (i := 4) (N := some 65) (v := undef) (a' := ?_) rfl rfl (by kernel_rfl) (by kernel_rfl) (by kernel_rfl) (fun _ _ _ h => h) (Or.inr ⟨by rfl, rfl⟩) trivial ?ha4 ?h4
        case ha4 => (simp only [Act.put, List.setIfInBounds_toArray, List.set_cons_zero, List.set_cons_succ, i64_w, i32_w]; rfl)
        refine takeN (i := 5) (N := some 66) (v := undef) (a' := ?_) rfl rfl (by kernel_rfl) (by kernel_rfl) (by kernel_rfl) (fun _ _ _ h => h) (Or.inr ⟨by rfl, rfl⟩) trivial ?ha5 ?h5
        case ha5 => (simp only [Act.put, List.setIfInBounds_toArray, List.set_cons_zero, List.set_cons_succ, i64_w, i32_w]; rfl)
        refine takeN (i := 6) (N := some 67) (v := undef) (a' := ?_) rfl rfl (by kernel_rfl) (by kernel_rfl) (by kernel_rfl) (fun _ _ _ h => h) (Or.inr ⟨by rfl, rfl⟩) trivial ?ha6 ?h6
        case ha6 => (simp only [Act.put, List.setIfInBounds_toArray, List.set_cons_zero, List.set_cons_succ, i64_w, i32_w]; rfl)
        refine takeN (i := 7) (N := some 68) (v := undef) (a' := ?_) rfl rfl (by kernel_rfl) (by kernel_rfl) (by kernel_rfl) (fun _ _ _ h => h) (Or.inr ⟨by rfl, rfl⟩) trivial ?ha7 ?h7
        case ha7 => (simp only [Act.put, List.setIfInBounds_toArray, List.set_cons_zero, List.set_cons_succ, i64_w, i32_w]; rfl)
        refine takeN (i := 8) (N := some 69) (v := undef) (a' := ?_) rfl rfl (by kernel_rfl) (by kernel_rfl) (by kernel_rfl) (fun _ _ _ h => h) (Or.inr ⟨by rfl, rfl⟩) trivial ?ha8 ?h8
        case ha8 => (simp only [Act.put, List.setIfInBounds_toArray, List.set_cons_zero, List.set_cons_succ, i64_w, i32_w]; rfl)
        refine takeN (i := 9) (N := some 70) (v := undef) (a' := ?_) rfl rfl (by kernel_rfl) (by kernel_rfl) (by kernel_rfl) (fun _ _ _ h => h) (Or.inr ⟨by rfl, rfl⟩) trivial ?ha9 ?h9
        case ha9 => (simp only [Act.put, List.setIfInBounds_toArray, List.set_cons_zero, List.set_cons_succ, i64_w, i32_w]; rfl)
        refine takeN (i := 10) (N := some 71) (v := ?_) (a' := ?_) rfl rfl (by kernel_rfl) (by kernel_rfl) (by kernel_rfl) (fun _ _ _ h => h) (Or.inl ⟨by rfl, ?hy10⟩) trivial ?ha10 ?h10
        case hy10 => (intro w' hSw; go_simp <;> with_reducible rfl)
        case ha10 => (simp only [Act.put, List.setIfInBounds_toArray, List.set_cons_zero, List.set_cons_succ, i64_w, i32_w]; rfl)
        refine wpAnyH_done (by kernel_rfl) ?_ _
        go_wp2
        go_meet
        case rel => exact ⟨true, rfl, HA, ⟨below_drew (Below.refl _ _)⟩⟩
      case rest =>
       obtain ⟨x71, rfl, HA2, HBc⟩ := hcut
       clear HA q0 q1 q2 q3 q4 q5 q6 q7 q8 HS8 HS38
       generalize wc = wd at *
       have HBd := Aside0.mk (below_step HB8.out HBc.out : Below w.heap.size w wd)
       have HKd := Aside0.mk (blk_below HK8.out HBc.out)
       have HVd := Aside0.mk (Kd.V_below HV8.out HBc.out)
       have HYd := Aside0.mk (Kd.R_below HP.out.2.2.1 HBc.out)
       clear HB8 HK8 HV8 HP HBc
       have hA := HA2.out
       clear HA2
       unfold mlC at hA
       by_cases c17 : x71 = true
       ·subst c17
        rw [if_pos rfl] at hA
        obtain rfl := Option.some.inj hA
        go_wp2
        go_ret
        exact ⟨rfl, HBd.out⟩
       ·rw [if_neg c17] at hA
        replace c17 := Bool.eq_false_iff.mpr c17
        subst c17
        by_cases c18 : (l2.length : Int) > 0
        case neg =>
         rw [if_neg (fun h_ => c18 h_.1)] at hA
         obtain rfl := Option.some.inj hA
         have c18b := decide_eq_false c18
         go_wp2
         go_ret
         exact ⟨rfl, HBd.out⟩
        by_cases c19 : (l3.length : Int) > 0
        case neg =>
         rw [if_neg (fun h_ => c19 h_.2)] at hA
         obtain rfl := Option.some.inj hA
         have c18b := decide_eq_true c18
         have c19b := decide_eq_false c19
         go_wp2
         go_ret
         exact ⟨rfl, HBd.out⟩
        rw [if_pos ⟨c18, c19⟩] at hA
        have c18b := decide_eq_true c18
        have c19b := decide_eq_true c19
        have HA := Aside0.mk hA
        clear hA
        go_wp2
        rw [show decide (0 < l3.length) = true from decide_eq_true (Int.ofNat_lt.mp c19)]
        clear c18 c19 c18b c19b
        go_loopg [15, 16] k (fun kq v15 v16 w' => ∃ (x : Int) (gn : Nat) (n0 n1 : Int), v15 = .int .i64 x ∧ v16 = .pointer (some ⟨gn, 0, none⟩) ∧ Aside0 (mlL k a0_0 a0_1 a0_2 a0_3 a0_4 a0_5 a1 (IntKind.u64.wrap (a1 + (IntKind.u64.wrap ((l2.length : Int))))) (IntKind.u64.wrap (a1 + (IntKind.u64.wrap ((y275.length : Int))))) y275 t294 kq x n0 n1 = some r) ∧ Aside0 (kq ≤ k) ∧ Aside0 (w'.heap[gn]? = some (.cells #[.int .u64 n0, .int .u64 n1] 54 (0, 0))) ∧ Aside0 (Below wd.heap.size wd w'))
        case atStart => exact ⟨0, wd.heap.size, 0, _, rfl, rfl, HA, ⟨Nat.le_refl _⟩, ⟨blk_new _ _⟩, ⟨below_alloc (Below.refl _ _) _⟩⟩
        case round =>
         clear HA
         obtain ⟨x, gn, n0, n1, rfl, rfl, HA, HK, HN, HB⟩ := hrel
         cases gk with
         | zero => exact absurd HA.out (by simp [mlL])
         | succ k1 =>
          have hA := HA.out
          clear HA
          rw [mlL] at hA
          have hn0 : wr.cell? ⟨gn, 0, none⟩ = some (.int .u64 n0) := (blk_cell HN.out 0).trans rfl
          have hn1 : wr.cell? ⟨gn, 1, none⟩ = some (.int .u64 n1) := (blk_cell HN.out 1).trans rfl
          by_cases c20 : n0 < 64
          case neg =>
           rw [if_neg c20] at hA
           obtain rfl := Option.some.inj hA
           have c20b := decide_eq_false c20
           go_wp2
           go_ret
           exact ⟨rfl, below_step HBd.out HB.out⟩
          rw [if_pos c20] at hA
          have c20b := decide_eq_true c20
          obtain ⟨⟨p0, p1⟩, A400, hA⟩ := Option.bind_eq_some_iff.mp hA
          dsimp only at hA
          have A40 := Aside0.mk A400
          have HA := Aside0.mk hA
          clear A400 hA
          go_upto_region 16 with (go_at_call 30; (with_reducible refine (spec_Leaves.calls n0 n1 p0 p1 _ A40.out).mono ?_); rintro e w1 ⟨rfl, hb⟩; have HB1 := Aside0.mk hb; clear hb)
          have HKP := Aside0.mk (show (w1.alloc (.cells #[.int .u64 p0, .int .u64 p1] 57)).heap[w1.heap.size]? = some (.cells #[.int .u64 p0, .int .u64 p1] 57 (0, 0)) from blk_new _ _)
          have HB1a := Aside0.mk (below_alloc HB1.out (.cells #[.int .u64 p0, .int .u64 p1] 57))
          clear hn0 hn1 c20b HB1
          generalize w1.alloc (.cells #[.int .u64 p0, .int .u64 p1] 57) = w2 at *
          generalize w1.heap.size = gp at *
          have HB2 := Aside0.mk (below_step HB.out HB1a.out : Below wd.heap.size wd w2)
          have HN2 := Aside0.mk (blk_below HN.out HB1a.out)
          clear HB HN HB1a
          have hp0 : w2.cell? ⟨gp, 0, none⟩ = some (.int .u64 p0) := (blk_cell HKP.out 0).trans rfl
          have hp1 : w2.cell? ⟨gp, 1, none⟩ = some (.int .u64 p1) := (blk_cell HKP.out 1).trans rfl
          have hn0 : w2.cell? ⟨gn, 0, none⟩ = some (.int .u64 n0) := (blk_cell HN2.out 0).trans rfl
          have hn1 : w2.cell? ⟨gn, 1, none⟩ = some (.int .u64 n1) := (blk_cell HN2.out 1).trans rfl
          have hA := HA.out
          clear HA
          by_cases c21 : p0 < a1
          case pos =>
           rw [if_pos (.inl c21)] at hA
           obtain rfl := Option.some.inj hA
           have c21b := decide_eq_true c21
           go_wp2
           go_ret
           exact ⟨rfl, below_step HBd.out HB2.out⟩
          have c21b := decide_eq_false c21
          by_cases c22 : p1 > IntKind.u64.wrap (a1 + (IntKind.u64.wrap ((y275.length : Int))))
          case pos =>
           rw [if_pos (.inr (.inl c22))] at hA
           obtain rfl := Option.some.inj hA
           have c22b := decide_eq_true c22
           go_wp2
           go_ret
           exact ⟨rfl, below_step HBd.out HB2.out⟩
          have c22b := decide_eq_false c22
          by_cases c23 : p1 ≤ p0
          case pos =>
           rw [if_pos (.inr (.inr c23))] at hA
           obtain rfl := Option.some.inj hA
           have c23b := decide_eq_true c23
           go_wp2
           go_ret
           exact ⟨rfl, below_step HBd.out HB2.out⟩
          have c23b := decide_eq_false c23
          rw [if_neg (fun h_ => h_.elim c21 (fun h_ => h_.elim c22 c23))] at hA
          by_cases c24 : p0 ≥ IntKind.u64.wrap (a1 + (IntKind.u64.wrap ((l2.length : Int))))
          case pos =>
           rw [if_pos c24] at hA
           have c24b := decide_eq_true c24
           obtain ⟨⟨m0, m1⟩, A500, hA⟩ := Option.bind_eq_some_iff.mp hA
           dsimp only at hA
           have A50 := Aside0.mk A500
           have HA := Aside0.mk hA
           clear A500 hA
           go_wp2_with (go_at_call 29; (with_reducible refine (impl_Parent.calls n0 n1 m0 m1 _ A50.out).mono ?_); rintro e w3 ⟨rfl, hb⟩; have hk3 := blk_below (blk_new w2 (.cells #[.int .u64 n0, .int .u64 n1] 54)) hb; have HK3 := Aside0.mk hk3; have HB3 := Aside0.mk (below_step (below_alloc (Below.refl w2.heap.size w2) _) hb : Below w2.heap.size w2 w3); have fz0 := blk_frozen hk3 0; have fz1 := blk_frozen hk3 1; have cl0 : w3.cell? ⟨w2.heap.size, 0, none⟩ = some (.int .u64 n0) := (blk_cell hk3 0).trans rfl; have cl1 : w3.cell? ⟨w2.heap.size, 1, none⟩ = some (.int .u64 n1) := (blk_cell hk3 1).trans rfl; clear hb hk3)
           go_roundg k1
           case measure => have := HK.out; omega
           case rel => exact ⟨x, w2.heap.size, m0, m1, rfl, rfl, HA, ⟨by have := HK.out; omega⟩, ⟨blk_put (blk_put HK3.out 0 _ rfl) 1 _ rfl⟩, ⟨below_set (below_set (below_step HB2.out HB3.out) HB2.out.size) HB2.out.size⟩⟩
          rw [if_neg c24] at hA
          have c24b := decide_eq_false c24
          go_upto_region 18 with (fail)
          have HS6_ := Aside0.mk (six_of (blk_below HKd.out HB2.out))
          by_cases c25 : x ≥ (t294.length : Int)
          case pos =>
           rw [if_pos c25] at hA
           obtain rfl := Option.some.inj hA
           have c25b := decide_eq_true c25
           refine startN (n := 34) (S := fun _ => True) (by kernel_rfl) rfl trivial ?_
           refine takeN (i := 0) (N := some 110) (v := ?_) (a' := ?_) rfl rfl (by kernel_rfl) (by kernel_rfl) (by kernel_rfl) (fun _ _ _ h => h) (Or.inl ⟨by rfl, ?hyb0⟩) trivial ?hab0 ?hb0
           case hyb0 => (intro w' hSw; go_simp <;> with_reducible rfl)
           case hab0 => (simp only [Act.put, List.setIfInBounds_toArray, List.set_cons_zero, List.set_cons_succ, i64_w, i32_w]; rfl)
           refine takeN (i := 1) (N := some 111) (v := ?_) (a' := ?_) rfl rfl (by kernel_rfl) (by kernel_rfl) (by kernel_rfl) (fun _ _ _ h => h) (Or.inl ⟨by rfl, ?hyb1⟩) trivial ?hab1 ?hb1
           case hyb1 => (intro w' hSw; go_simp <;> with_reducible rfl)
           case hab1 => (simp only [Act.put, List.setIfInBounds_toArray, List.set_cons_zero, List.set_cons_succ, i64_w, i32_w]; rfl)
           refine takeN (i := 2) (N := some 112) (v := ?_) (a' := ?_) rfl rfl (by kernel_rfl) (by kernel_rfl) (by kernel_rfl) (fun _ _ _ h => h) (Or.inl ⟨by rfl, ?hyb2⟩) trivial ?hab2 ?hb2
           case hyb2 => (intro w' hSw; go_simp <;> with_reducible rfl)
           case hab2 => (simp only [Act.put, List.setIfInBounds_toArray, List.set_cons_zero, List.set_cons_succ, i64_w, i32_w]; rfl)
           refine takeN (i := 3) (N := some 113) (v := ?_) (a' := ?_) rfl rfl (by kernel_rfl) (by kernel_rfl) (by kernel_rfl) (fun _ _ _ h => h) (Or.inl ⟨by rfl, ?hyb3⟩) trivial ?hab3 ?hb3
           case hyb3 => (intro w' hSw; go_simp <;> with_reducible rfl)
           case hab3 => (simp only [Act.put, List.setIfInBounds_toArray, List.set_cons_zero, List.set_cons_succ, i64_w, i32_w]; rfl)
           refine takeN (i := 4) (N := some 114) (v := ?_) (a' := ?_) rfl rfl (by kernel_rfl) (by kernel_rfl) (by kernel_rfl) (fun _ _ _ h => h) (Or.inl ⟨by rfl, ?hyb4⟩) trivial ?hab4 ?hb4
           case hyb4 => (intro w' hSw; go_simp <;> with_reducible rfl)
           case hab4 => (simp only [Act.put, List.setIfInBounds_toArray, List.set_cons_zero, List.set_cons_succ, i64_w, i32_w]; rfl)
           refine takeN (i := 5) (N := some 115) (v := undef) (a' := ?_) rfl rfl (by kernel_rfl) (by kernel_rfl) (by kernel_rfl) (fun _ _ _ h => h) (Or.inr ⟨by rfl, rfl⟩) trivial ?hab5 ?hb5
           case hab5 => (simp only [Act.put, List.setIfInBounds_toArray, List.set_cons_zero, List.set_cons_succ, i64_w, i32_w]; rfl)
           refine takeN (i := 6) (N := some 116) (v := undef) (a' := ?_) rfl rfl (by kernel_rfl) (by kernel_rfl) (by kernel_rfl) (fun _ _ _ h => h) (Or.inr ⟨by rfl, rfl⟩) trivial ?hab6 ?hb6
           case hab6 => (simp only [Act.put, List.setIfInBounds_toArray, List.set_cons_zero, List.set_cons_succ, i64_w, i32_w]; rfl)
           refine takeN (i := 7) (N := some 117) (v := undef) (a' := ?_) rfl rfl (by kernel_rfl) (by kernel_rfl) (by kernel_rfl) (fun _ _ _ h => h) (Or.inr ⟨by rfl, rfl⟩) trivial ?hab7 ?hb7
           case hab7 => (simp only [Act.put, List.setIfInBounds_toArray, List.set_cons_zero, List.set_cons_succ, i64_w, i32_w]; rfl)
           refine takeN (i := 8) (N := some 118) (v := undef) (a' := ?_) rfl rfl (by kernel_rfl) (by kernel_rfl) (by kernel_rfl) (fun _ _ _ h => h) (Or.inr ⟨by rfl, rfl⟩) trivial ?hab8 ?hb8
           case hab8 => (simp only [Act.put, List.setIfInBounds_toArray, List.set_cons_zero, List.set_cons_succ, i64_w, i32_w]; rfl)
           refine takeN (i := 9) (N := some 119) (v := undef) (a' := ?_) rfl rfl (by kernel_rfl) (by kernel_rfl) (by kernel_rfl) (fun _ _ _ h => h) (Or.inr ⟨by rfl, rfl⟩) trivial ?hab9 ?hb9
           case hab9 => (simp only [Act.put, List.setIfInBounds_toArray, List.set_cons_zero, List.set_cons_succ, i64_w, i32_w]; rfl)
           refine takeN (i := 10) (N := some 120) (v := undef) (a' := ?_) rfl rfl (by kernel_rfl) (by kernel_rfl) (by kernel_rfl) (fun _ _ _ h => h) (Or.inr ⟨by rfl, rfl⟩) trivial ?hab10 ?hb10
           case hab10 => (simp only [Act.put, List.setIfInBounds_toArray, List.set_cons_zero, List.set_cons_succ, i64_w, i32_w]; rfl)
           refine takeN (i := 11) (N := some 121) (v := undef) (a' := ?_) rfl rfl (by kernel_rfl) (by kernel_rfl) (by kernel_rfl) (fun _ _ _ h => h) (Or.inr ⟨by rfl, rfl⟩) trivial ?hab11 ?hb11
           case hab11 => (simp only [Act.put, List.setIfInBounds_toArray, List.set_cons_zero, List.set_cons_succ, i64_w, i32_w]; rfl)
           refine takeN (i := 12) (N := some 122) (v := ?_) (a' := ?_) rfl rfl (by kernel_rfl) (by kernel_rfl) (by kernel_rfl) (fun _ _ _ h => h) (Or.inl ⟨by rfl, ?hyb12⟩) trivial ?hab12 ?hb12
           case hyb12 => (intro w' hSw; go_simp <;> with_reducible rfl)
           case hab12 => (simp only [Act.put, List.setIfInBounds_toArray, List.set_cons_zero, List.set_cons_succ, i64_w, i32_w]; rfl)
           refine takeN (i := 13) (N := some 123) (v := ?_) (a' := ?_) rfl rfl (by kernel_rfl) (by kernel_rfl) (by kernel_rfl) (fun _ _ _ h => h) (Or.inl ⟨by rfl, ?hyb13⟩) trivial ?hab13 ?hb13
           case hyb13 => (intro w' hSw; go_simp <;> with_reducible rfl)
           case hab13 => (simp only [Act.put, List.setIfInBounds_toArray, List.set_cons_zero, List.set_cons_succ, i64_w, i32_w]; rfl)
           refine takeN (i := 14) (N := some 124) (v := undef) (a' := ?_) rfl rfl (by kernel_rfl) (by kernel_rfl) (by kernel_rfl) (fun _ _ _ h => h) (Or.inr ⟨by rfl, rfl⟩) trivial ?hab14 ?hb14
           case hab14 => (simp only [Act.put, List.setIfInBounds_toArray, List.set_cons_zero, List.set_cons_succ, i64_w, i32_w]; rfl)
           refine takeN (i := 15) (N := some 125) (v := undef) (a' := ?_) rfl rfl (by kernel_rfl) (by kernel_rfl) (by kernel_rfl) (fun _ _ _ h => h) (Or.inr ⟨by rfl, rfl⟩) trivial ?hab15 ?hb15
           case hab15 => (simp only [Act.put, List.setIfInBounds_toArray, List.set_cons_zero, List.set_cons_succ, i64_w, i32_w]; rfl)
           refine takeN (i := 16) (N := some 126) (v := undef) (a' := ?_) rfl rfl (by kernel_rfl) (by kernel_rfl) (by kernel_rfl) (fun _ _ _ h => h) (Or.inr ⟨by rfl, rfl⟩) trivial ?hab16 ?hb16
           case hab16 => (simp only [Act.put, List.setIfInBounds_toArray, List.set_cons_zero, List.set_cons_succ, i64_w, i32_w]; rfl)
           refine takeN (i := 17) (N := some 127) (v := undef) (a' := ?_) rfl rfl (by kernel_rfl) (by kernel_rfl) (by kernel_rfl) (fun _ _ _ h => h) (Or.inr ⟨by rfl, rfl⟩) trivial ?hab17 ?hb17
           case hab17 => (simp only [Act.put, List.setIfInBounds_toArray, List.set_cons_zero, List.set_cons_succ, i64_w, i32_w]; rfl)
           refine takeN (i := 18) (N := some 128) (v := undef) (a' := ?_) rfl rfl (by kernel_rfl) (by kernel_rfl) (by kernel_rfl) (fun _ _ _ h => h) (Or.inr ⟨by rfl, rfl⟩) trivial ?hab18 ?hb18
           case hab18 => (simp only [Act.put, List.setIfInBounds_toArray, List.set_cons_zero, List.set_cons_succ, i64_w, i32_w]; rfl)
           refine takeN (i := 19) (N := some 129) (v := undef) (a' := ?_) rfl rfl (by kernel_rfl) (by kernel_rfl) (by kernel_rfl) (fun _ _ _ h => h) (Or.inr ⟨by rfl, rfl⟩) trivial ?hab19 ?hb19
           case hab19 => (simp only [Act.put, List.setIfInBounds_toArray, List.set_cons_zero, List.set_cons_succ, i64_w, i32_w]; rfl)
           refine takeN (i := 20) (N := some 130) (v := undef) (a' := ?_) rfl rfl (by kernel_rfl) (by kernel_rfl) (by kernel_rfl) (fun _ _ _ h => h) (Or.inr ⟨by rfl, rfl⟩) trivial ?hab20 ?hb20
           case hab20 => (simp only [Act.put, List.setIfInBounds_toArray, List.set_cons_zero, List.set_cons_succ, i64_w, i32_w]; rfl)
           refine takeN (i := 21) (N := some 131) (v := undef) (a' := ?_) rfl rfl (by kernel_rfl) (by kernel_rfl) (by kernel_rfl) (fun _ _ _ h => h) (Or.inr ⟨by rfl, rfl⟩) trivial ?hab21 ?hb21
           case hab21 => (simp only [Act.put, List.setIfInBounds_toArray, List.set_cons_zero, List.set_cons_succ, i64_w, i32_w]; rfl)
           refine takeN (i := 22) (N := some 132) (v := undef) (a' := ?_) rfl rfl (by kernel_rfl) (by kernel_rfl) (by kernel_rfl) (fun _ _ _ h => h) (Or.inr ⟨by rfl, rfl⟩) trivial ?hab22 ?hb22
           case hab22 => (simp only [Act.put, List.setIfInBounds_toArray, List.set_cons_zero, List.set_cons_succ, i64_w, i32_w]; rfl)
           refine takeN (i := 23) (N := some 133) (v := undef) (a' := ?_) rfl rfl (by kernel_rfl) (by kernel_rfl) (by kernel_rfl) (fun _ _ _ h => h) (Or.inr ⟨by rfl, rfl⟩) trivial ?hab23 ?hb23
           case hab23 => (simp only [Act.put, List.setIfInBounds_toArray, List.set_cons_zero, List.set_cons_succ, i64_w, i32_w]; rfl)
           refine takeN (i := 24) (N := some 134) (v := undef) (a' := ?_) rfl rfl (by kernel_rfl) (by kernel_rfl) (by kernel_rfl) (fun _ _ _ h => h) (Or.inr ⟨by rfl, rfl⟩) trivial ?hab24 ?hb24
           case hab24 => (simp only [Act.put, List.setIfInBounds_toArray, List.set_cons_zero, List.set_cons_succ, i64_w, i32_w]; rfl)
           refine takeN (i := 25) (N := some 135) (v := undef) (a' := ?_) rfl rfl (by kernel_rfl) (by kernel_rfl) (by kernel_rfl) (fun _ _ _ h => h) (Or.inr ⟨by rfl, rfl⟩) trivial ?hab25 ?hb25
           case hab25 => (simp only [Act.put, List.setIfInBounds_toArray, List.set_cons_zero, List.set_cons_succ, i64_w, i32_w]; rfl)
           refine takeN (i := 26) (N := some 136) (v := undef) (a' := ?_) rfl rfl (by kernel_rfl) (by kernel_rfl) (by kernel_rfl) (fun _ _ _ h => h) (Or.inr ⟨by rfl, rfl⟩) trivial ?hab26 ?hb26
           case hab26 => (simp only [Act.put, List.setIfInBounds_toArray, List.set_cons_zero, List.set_cons_succ, i64_w, i32_w]; rfl)
           refine takeN (i := 27) (N := some 137) (v := undef) (a' := ?_) rfl rfl (by kernel_rfl) (by kernel_rfl) (by kernel_rfl) (fun _ _ _ h => h) (Or.inr ⟨by rfl, rfl⟩) trivial ?hab27 ?hb27
           case hab27 => (simp only [Act.put, List.setIfInBounds_toArray, List.set_cons_zero, List.set_cons_succ, i64_w, i32_w]; rfl)
           refine takeN (i := 28) (N := some 138) (v := undef) (a' := ?_) rfl rfl (by kernel_rfl) (by kernel_rfl) (by kernel_rfl) (fun _ _ _ h => h) (Or.inr ⟨by rfl, rfl⟩) trivial ?hab28 ?hb28
           case hab28 => (simp only [Act.put, List.setIfInBounds_toArray, List.set_cons_zero, List.set_cons_succ, i64_w, i32_w]; rfl)
           refine takeN (i := 29) (N := some 139) (v := undef) (a' := ?_) rfl rfl (by kernel_rfl) (by kernel_rfl) (by kernel_rfl) (fun _ _ _ h => h) (Or.inr ⟨by rfl, rfl⟩) trivial ?hab29 ?hb29
           case hab29 => (simp only [Act.put, List.setIfInBounds_toArray, List.set_cons_zero, List.set_cons_succ, i64_w, i32_w]; rfl)
           refine takeN (i := 30) (N := some 140) (v := undef) (a' := ?_) rfl rfl (by kernel_rfl) (by kernel_rfl) (by kernel_rfl) (fun _ _ _ h => h) (Or.inr ⟨by rfl, rfl⟩) trivial ?hab30 ?hb30
           case hab30 => (simp only [Act.put, List.setIfInBounds_toArray, List.set_cons_zero, List.set_cons_succ, i64_w, i32_w]; rfl)
           refine takeN (i := 31) (N := some 141) (v := undef) (a' := ?_) rfl rfl (by kernel_rfl) (by kernel_rfl) (by kernel_rfl) (fun _ _ _ h => h) (Or.inr ⟨by rfl, rfl⟩) trivial ?hab31 ?hb31
           case hab31 => (simp only [Act.put, List.setIfInBounds_toArray, List.set_cons_zero, List.set_cons_succ, i64_w, i32_w]; rfl)
           refine takeN (i := 32) (N := some 142) (v := undef) (a' := ?_) rfl rfl (by kernel_rfl) (by kernel_rfl) (by kernel_rfl) (fun _ _ _ h => h) (Or.inr ⟨by rfl, rfl⟩) trivial ?hab32 ?hb32
           case hab32 => (simp only [Act.put, List.setIfInBounds_toArray, List.set_cons_zero, List.set_cons_succ, i64_w, i32_w]; rfl)
           refine takeN (i := 33) (N := some 143) (v := ?_) (a' := ?_) rfl rfl (by kernel_rfl) (by kernel_rfl) (by kernel_rfl) (fun _ _ _ h => h) (Or.inl ⟨by rfl, ?hyb33⟩) trivial ?hab33 ?hb33
           case hyb33 => (intro w' hSw; go_simp <;> with_reducible rfl)
           case hab33 => (simp only [Act.put, List.setIfInBounds_toArray, List.set_cons_zero, List.set_cons_succ, i64_w, i32_w]; rfl)
           refine wpAnyH_done (by kernel_rfl) ?_ _
           go_wp2
           go_ret
           exact ⟨rfl, below_step HBd.out (below_step HB2.out (below_drew (Below.refl _ _)))⟩
          rw [if_neg c25] at hA
          have c25b := decide_eq_false c25
          by_cases c26 : 0 ≤ x
          case neg => rw [if_neg c26] at hA; exact absurd hA (by simp)
          rw [if_pos c26] at hA
          obtain ⟨xn, rfl⟩ := Int.eq_ofNat_of_zero_le c26
          have i1 : (xn : Int) < (t294.length : Int) := Int.not_le.mp c25
          have HN6 := Aside0.mk (Kd.N_below (Kd.R_N HYd.out) HB2.out)
          obtain ⟨g6, c6, e6, _, _, _⟩ := Kd.N_form HN6.out (Nat.lt_of_le_of_lt (Nat.zero_le _) (Int.ofNat_lt.mp i1))
          obtain ⟨rfl, rfl⟩ : Av = some ⟨g6, 0, none⟩ ∧ cv = c6 := by injection e6 with e1 e2 e3; exact ⟨e1, e3⟩
          obtain ⟨ca, _, hfa, hca, _⟩ := Kd.N_elem HN6.out z60 (xn : Int) c26 i1
          rw [Int.toNat_natCast] at hfa hca
          rw [show rd_T60 t294 (xn : Int) = t294.getD xn z60 by unfold rd_T60; rw [Int.toNat_natCast]] at hA
          generalize t294.getD xn z60 = sv at hA hfa
          obtain ⟨Aa, da, rfl, hla, hFa⟩ := k60_openF hfa
          have xa0 : w2.cell? ⟨g6, xn * 3, none⟩ = some (.int .u64 sv.f0.f0) := hca 0 _ rfl
          have xa1 : w2.cell? ⟨g6, xn * 3 + 1, none⟩ = some (.int .u64 sv.f0.f1) := hca 1 _ rfl
          have xa2 : w2.cell? ⟨g6, xn * 3 + 2, none⟩ = some (.slice Aa sv.f1.length da) := hca 2 _ rfl
          have HFa := Aside0.mk hFa
          have HLa := Aside0.mk hla
          have HA := Aside0.mk hA
          clear hca hfa hFa hla hA e6
          by_cases c27 : (!(sv.f0.f0 == n0) || !(sv.f0.f1 == n1)) = true
          case pos =>
           have hA := HA.out
           clear HA
           rw [if_pos c27] at hA
           obtain rfl := Option.some.inj hA
           refine startN (n := 34) (S := fun w' => (w'.cell? ⟨gn, 0, none⟩ = some (.int .u64 n0) ∧ w'.cell? ⟨gn, 1, none⟩ = some (.int .u64 n1)) ∧ w'.cell? ⟨g6, xn * 3, none⟩ = some (.int .u64 sv.f0.f0) ∧ w'.cell? ⟨g6, xn * 3 + 1, none⟩ = some (.int .u64 sv.f0.f1) ∧ w'.cell? ⟨g6, xn * 3 + 2, none⟩ = some (.slice Aa sv.f1.length da)) (by kernel_rfl) rfl ⟨⟨hn0, hn1⟩, xa0, xa1, xa2⟩ ?_
           have hS0 : (w2.drew.cell? ⟨gn, 0, none⟩ = some (.int .u64 n0) ∧ w2.drew.cell? ⟨gn, 1, none⟩ = some (.int .u64 n1)) ∧ w2.drew.cell? ⟨g6, xn * 3, none⟩ = some (.int .u64 sv.f0.f0) ∧ w2.drew.cell? ⟨g6, xn * 3 + 1, none⟩ = some (.int .u64 sv.f0.f1) ∧ w2.drew.cell? ⟨g6, xn * 3 + 2, none⟩ = some (.slice Aa sv.f1.length da) := ⟨⟨hn0, hn1⟩, xa0, xa1, xa2⟩
           refine takeN (i := 0) (N := some 110) (v := ?_) (a' := ?_) rfl rfl (by kernel_rfl) (by kernel_rfl) (by kernel_rfl) (fun _ _ _ h => h) (Or.inl ⟨by rfl, ?hyc0⟩) hS0 ?hac0 ?hc0
           case hyc0 => (intro w' hSw; obtain ⟨⟨s0, s1⟩, s2, s3, s4⟩ := hSw; go_simp <;> with_reducible rfl)
           case hac0 => (simp only [Act.put, List.setIfInBounds_toArray, List.set_cons_zero, List.set_cons_succ, i64_w, i32_w]; rfl)
           refine takeN (i := 1) (N := some 111) (v := ?_) (a' := ?_) rfl rfl (by kernel_rfl) (by kernel_rfl) (by kernel_rfl) (fun _ _ _ h => h) (Or.inl ⟨by rfl, ?hyc1⟩) hS0 ?hac1 ?hc1
           case hyc1 => (intro w' hSw; obtain ⟨⟨s0, s1⟩, s2, s3, s4⟩ := hSw; go_simp <;> with_reducible rfl)
           case hac1 => (simp only [Act.put, List.setIfInBounds_toArray, List.set_cons_zero, List.set_cons_succ, i64_w, i32_w]; rfl)
           refine takeN (i := 2) (N := some 112) (v := ?_) (a' := ?_) rfl rfl (by kernel_rfl) (by kernel_rfl) (by kernel_rfl) (fun _ _ _ h => h) (Or.inl ⟨by rfl, ?hyc2⟩) hS0 ?hac2 ?hc2
           case hyc2 => (intro w' hSw; obtain ⟨⟨s0, s1⟩, s2, s3, s4⟩ := hSw; go_simp <;> with_reducible rfl)
           case hac2 => (simp only [Act.put, List.setIfInBounds_toArray, List.set_cons_zero, List.set_cons_succ, i64_w, i32_w]; rfl)
           refine takeN (i := 3) (N := some 113) (v := ?_) (a' := ?_) rfl rfl (by kernel_rfl) (by kernel_rfl) (by kernel_rfl) (fun _ _ _ h => h) (Or.inl ⟨by rfl, ?hyc3⟩) hS0 ?hac3 ?hc3
           case hyc3 => (intro w' hSw; obtain ⟨⟨s0, s1⟩, s2, s3, s4⟩ := hSw; go_simp <;> with_reducible rfl)
           case hac3 => (simp only [Act.put, List.setIfInBounds_toArray, List.set_cons_zero, List.set_cons_succ, i64_w, i32_w]; rfl)
           refine takeN (i := 4) (N := some 114) (v := ?_) (a' := ?_) rfl rfl (by kernel_rfl) (by kernel_rfl) (by kernel_rfl) (fun _ _ _ h => h) (Or.inl ⟨by rfl, ?hyc4⟩) hS0 ?hac4 ?hc4
           case hyc4 => (intro w' hSw; obtain ⟨⟨s0, s1⟩, s2, s3, s4⟩ := hSw; go_simp <;> with_reducible rfl)
           case hac4 => (simp only [Act.put, List.setIfInBounds_toArray, List.set_cons_zero, List.set_cons_succ, i64_w, i32_w]; rfl)
           refine takeN (i := 5) (N := some 115) (v := ?_) (a' := ?_) rfl rfl (by kernel_rfl) (by kernel_rfl) (by kernel_rfl) (fun _ _ _ h => h) (Or.inl ⟨by rfl, ?hyc5⟩) hS0 ?hac5 ?hc5
           case hyc5 => (intro w' hSw; obtain ⟨⟨s0, s1⟩, s2, s3, s4⟩ := hSw; go_simp <;> with_reducible rfl)
           case hac5 => (simp only [Act.put, List.setIfInBounds_toArray, List.set_cons_zero, List.set_cons_succ, i64_w, i32_w]; rfl)
           refine takeN (i := 6) (N := some 116) (v := ?_) (a' := ?_) rfl rfl (by kernel_rfl) (by kernel_rfl) (by kernel_rfl) (fun _ _ _ h => h) (Or.inl ⟨by rfl, ?hyc6⟩) hS0 ?hac6 ?hc6
           case hyc6 => (intro w' hSw; obtain ⟨⟨s0, s1⟩, s2, s3, s4⟩ := hSw; go_simp <;> with_reducible rfl)
           case hac6 => (simp only [Act.put, List.setIfInBounds_toArray, List.set_cons_zero, List.set_cons_succ, i64_w, i32_w]; rfl)
           refine takeN (i := 7) (N := some 117) (v := ?_) (a' := ?_) rfl rfl (by kernel_rfl) (by kernel_rfl) (by kernel_rfl) (fun _ _ _ h => h) (Or.inl ⟨by rfl, ?hyc7⟩) hS0 ?hac7 ?hc7
           case hyc7 => (intro w' hSw; obtain ⟨⟨s0, s1⟩, s2, s3, s4⟩ := hSw; go_simp <;> with_reducible rfl)
           case hac7 => (simp only [Act.put, List.setIfInBounds_toArray, List.set_cons_zero, List.set_cons_succ, i64_w, i32_w]; rfl)
           refine takeN (i := 8) (N := some 118) (v := ?_) (a' := ?_) rfl rfl (by kernel_rfl) (by kernel_rfl) (by kernel_rfl) (fun _ _ _ h => h) (Or.inl ⟨by rfl, ?hyc8⟩) hS0 ?hac8 ?hc8
           case hyc8 => (intro w' hSw; obtain ⟨⟨s0, s1⟩, s2, s3, s4⟩ := hSw; go_simp <;> with_reducible rfl)
           case hac8 => (simp only [Act.put, List.setIfInBounds_toArray, List.set_cons_zero, List.set_cons_succ, i64_w, i32_w]; rfl)
           refine takeN (i := 9) (N := some 119) (v := ?_) (a' := ?_) rfl rfl (by kernel_rfl) (by kernel_rfl) (by kernel_rfl) (fun _ _ _ h => h) (Or.inl ⟨by rfl, ?hyc9⟩) hS0 ?hac9 ?hc9
           case hyc9 => (intro w' hSw; obtain ⟨⟨s0, s1⟩, s2, s3, s4⟩ := hSw; go_simp <;> with_reducible rfl)
           case hac9 => (simp only [Act.put, List.setIfInBounds_toArray, List.set_cons_zero, List.set_cons_succ, i64_w, i32_w]; rfl)
           refine takeN (i := 10) (N := some 120) (v := ?_) (a' := ?_) rfl rfl (by kernel_rfl) (by kernel_rfl) (by kernel_rfl) (fun _ _ _ h => h) (Or.inl ⟨by rfl, ?hyc10⟩) hS0 ?hac10 ?hc10
           case hyc10 => (intro w' hSw; obtain ⟨⟨s0, s1⟩, s2, s3, s4⟩ := hSw; go_simp <;> with_reducible rfl)
           case hac10 => (simp only [Act.put, List.setIfInBounds_toArray, List.set_cons_zero, List.set_cons_succ, i64_w, i32_w]; rfl)
           refine takeN (i := 11) (N := some 121) (v := ?_) (a' := ?_) rfl rfl (by kernel_rfl) (by kernel_rfl) (by kernel_rfl) (fun _ _ _ h => h) (Or.inl ⟨by rfl, ?hyc11⟩) hS0 ?hac11 ?hc11
           case hyc11 => (intro w' hSw; obtain ⟨⟨s0, s1⟩, s2, s3, s4⟩ := hSw; go_simp <;> with_reducible rfl)
           case hac11 => (simp only [Act.put, List.setIfInBounds_toArray, List.set_cons_zero, List.set_cons_succ, i64_w, i32_w]; rfl)
           refine takeN (i := 12) (N := some 122) (v := ?_) (a' := ?_) rfl rfl (by kernel_rfl) (by kernel_rfl) (by kernel_rfl) (fun _ _ _ h => h) (Or.inl ⟨by rfl, ?hyc12⟩) hS0 ?hac12 ?hc12
           case hyc12 => (intro w' hSw; obtain ⟨⟨s0, s1⟩, s2, s3, s4⟩ := hSw; go_simp <;> with_reducible rfl)
           case hac12 => (simp only [Act.put, List.setIfInBounds_toArray, List.set_cons_zero, List.set_cons_succ, i64_w, i32_w]; rfl)
           refine takeN (i := 13) (N := some 123) (v := ?_) (a' := ?_) rfl rfl (by kernel_rfl) (by kernel_rfl) (by kernel_rfl) (fun _ _ _ h => h) (Or.inl ⟨by rfl, ?hyc13⟩) hS0 ?hac13 ?hc13
           case hyc13 => (intro w' hSw; obtain ⟨⟨s0, s1⟩, s2, s3, s4⟩ := hSw; go_simp <;> with_reducible rfl)
           case hac13 => (simp only [Act.put, List.setIfInBounds_toArray, List.set_cons_zero, List.set_cons_succ, i64_w, i32_w]; rfl)
           refine takeN (i := 14) (N := some 124) (v := undef) (a' := ?_) rfl rfl (by kernel_rfl) (by kernel_rfl) (by kernel_rfl) (fun _ _ _ h => h) (Or.inr ⟨by rfl, rfl⟩) hS0 ?hac14 ?hc14
           case hac14 => (simp only [Act.put, List.setIfInBounds_toArray, List.set_cons_zero, List.set_cons_succ, i64_w, i32_w]; rfl)
           refine takeN (i := 15) (N := some 125) (v := undef) (a' := ?_) rfl rfl (by kernel_rfl) (by kernel_rfl) (by kernel_rfl) (fun _ _ _ h => h) (Or.inr ⟨by rfl, rfl⟩) hS0 ?hac15 ?hc15
           case hac15 => (simp only [Act.put, List.setIfInBounds_toArray, List.set_cons_zero, List.set_cons_succ, i64_w, i32_w]; rfl)
           refine takeN (i := 16) (N := some 126) (v := undef) (a' := ?_) rfl rfl (by kernel_rfl) (by kernel_rfl) (by kernel_rfl) (fun _ _ _ h => h) (Or.inr ⟨by rfl, rfl⟩) hS0 ?hac16 ?hc16
           case hac16 => (simp only [Act.put, List.setIfInBounds_toArray, List.set_cons_zero, List.set_cons_succ, i64_w, i32_w]; rfl)
           refine takeN (i := 17) (N := some 127) (v := undef) (a' := ?_) rfl rfl (by kernel_rfl) (by kernel_rfl) (by kernel_rfl) (fun _ _ _ h => h) (Or.inr ⟨by rfl, rfl⟩) hS0 ?hac17 ?hc17
           case hac17 => (simp only [Act.put, List.setIfInBounds_toArray, List.set_cons_zero, List.set_cons_succ, i64_w, i32_w]; rfl)
           refine takeN (i := 18) (N := some 128) (v := undef) (a' := ?_) rfl rfl (by kernel_rfl) (by kernel_rfl) (by kernel_rfl) (fun _ _ _ h => h) (Or.inr ⟨by rfl, rfl⟩) hS0 ?hac18 ?hc18
           case hac18 => (simp only [Act.put, List.setIfInBounds_toArray, List.set_cons_zero, List.set_cons_succ, i64_w, i32_w]; rfl)
           refine takeN (i := 19) (N := some 129) (v := undef) (a' := ?_) rfl rfl (by kernel_rfl) (by kernel_rfl) (by kernel_rfl) (fun _ _ _ h => h) (Or.inr ⟨by rfl, rfl⟩) hS0 ?hac19 ?hc19
           case hac19 => (simp only [Act.put, List.setIfInBounds_toArray, List.set_cons_zero, List.set_cons_succ, i64_w, i32_w]; rfl)
           refine takeN (i := 20) (N := some 130) (v := undef) (a' := ?_) rfl rfl (by kernel_rfl) (by kernel_rfl) (by kernel_rfl) (fun _ _ _ h => h) (Or.inr ⟨by rfl, rfl⟩) hS0 ?hac20 ?hc20
           case hac20 => (simp only [Act.put, List.setIfInBounds_toArray, List.set_cons_zero, List.set_cons_succ, i64_w, i32_w]; rfl)
           refine takeN (i := 21) (N := some 131) (v := undef) (a' := ?_) rfl rfl (by kernel_rfl) (by kernel_rfl) (by kernel_rfl) (fun _ _ _ h => h) (Or.inr ⟨by rfl, rfl⟩) hS0 ?hac21 ?hc21
           case hac21 => (simp only [Act.put, List.setIfInBounds_toArray, List.set_cons_zero, List.set_cons_succ, i64_w, i32_w]; rfl)
           refine takeN (i := 22) (N := some 132) (v := undef) (a' := ?_) rfl rfl (by kernel_rfl) (by kernel_rfl) (by kernel_rfl) (fun _ _ _ h => h) (Or.inr ⟨by rfl, rfl⟩) hS0 ?hac22 ?hc22
           case hac22 => (simp only [Act.put, List.setIfInBounds_toArray, List.set_cons_zero, List.set_cons_succ, i64_w, i32_w]; rfl)
           refine takeN (i := 23) (N := some 133) (v := undef) (a' := ?_) rfl rfl (by kernel_rfl) (by kernel_rfl) (by kernel_rfl) (fun _ _ _ h => h) (Or.inr ⟨by rfl, rfl⟩) hS0 ?hac23 ?hc23
           case hac23 => (simp only [Act.put, List.setIfInBounds_toArray, List.set_cons_zero, List.set_cons_succ, i64_w, i32_w]; rfl)
           refine takeN (i := 24) (N := some 134) (v := undef) (a' := ?_) rfl rfl (by kernel_rfl) (by kernel_rfl) (by kernel_rfl) (fun _ _ _ h => h) (Or.inr ⟨by rfl, rfl⟩) hS0 ?hac24 ?hc24
           case hac24 => (simp only [Act.put, List.setIfInBounds_toArray, List.set_cons_zero, List.set_cons_succ, i64_w, i32_w]; rfl)
           refine takeN (i := 25) (N := some 135) (v := undef) (a' := ?_) rfl rfl (by kernel_rfl) (by kernel_rfl) (by kernel_rfl) (fun _ _ _ h => h) (Or.inr ⟨by rfl, rfl⟩) hS0 ?hac25 ?hc25
           case hac25 => (simp only [Act.put, List.setIfInBounds_toArray, List.set_cons_zero, List.set_cons_succ, i64_w, i32_w]; rfl)
           refine takeN (i := 26) (N := some 136) (v := undef) (a' := ?_) rfl rfl (by kernel_rfl) (by kernel_rfl) (by kernel_rfl) (fun _ _ _ h => h) (Or.inr ⟨by rfl, rfl⟩) hS0 ?hac26 ?hc26
           case hac26 => (simp only [Act.put, List.setIfInBounds_toArray, List.set_cons_zero, List.set_cons_succ, i64_w, i32_w]; rfl)
           refine takeN (i := 27) (N := some 137) (v := undef) (a' := ?_) rfl rfl (by kernel_rfl) (by kernel_rfl) (by kernel_rfl) (fun _ _ _ h => h) (Or.inr ⟨by rfl, rfl⟩) hS0 ?hac27 ?hc27
           case hac27 => (simp only [Act.put, List.setIfInBounds_toArray, List.set_cons_zero, List.set_cons_succ, i64_w, i32_w]; rfl)
           refine takeN (i := 28) (N := some 138) (v := undef) (a' := ?_) rfl rfl (by kernel_rfl) (by kernel_rfl) (by kernel_rfl) (fun _ _ _ h => h) (Or.inr ⟨by rfl, rfl⟩) hS0 ?hac28 ?hc28
           case hac28 => (simp only [Act.put, List.setIfInBounds_toArray, List.set_cons_zero, List.set_cons_succ, i64_w, i32_w]; rfl)
           refine takeN (i := 29) (N := some 139) (v := undef) (a' := ?_) rfl rfl (by kernel_rfl) (by kernel_rfl) (by kernel_rfl) (fun _ _ _ h => h) (Or.inr ⟨by rfl, rfl⟩) hS0 ?hac29 ?hc29
           case hac29 => (simp only [Act.put, List.setIfInBounds_toArray, List.set_cons_zero, List.set_cons_succ, i64_w, i32_w]; rfl)
           refine takeN (i := 30) (N := some 140) (v := undef) (a' := ?_) rfl rfl (by kernel_rfl) (by kernel_rfl) (by kernel_rfl) (fun _ _ _ h => h) (Or.inr ⟨by rfl, rfl⟩) hS0 ?hac30 ?hc30
           case hac30 => (simp only [Act.put, List.setIfInBounds_toArray, List.set_cons_zero, List.set_cons_succ, i64_w, i32_w]; rfl)
           refine takeN (i := 31) (N := some 141) (v := undef) (a' := ?_) rfl rfl (by kernel_rfl) (by kernel_rfl) (by kernel_rfl) (fun _ _ _ h => h) (Or.inr ⟨by rfl, rfl⟩) hS0 ?hac31 ?hc31
           case hac31 => (simp only [Act.put, List.setIfInBounds_toArray, List.set_cons_zero, List.set_cons_succ, i64_w, i32_w]; rfl)
           refine takeN (i := 32) (N := some 142) (v := undef) (a' := ?_) rfl rfl (by kernel_rfl) (by kernel_rfl) (by kernel_rfl) (fun _ _ _ h => h) (Or.inr ⟨by rfl, rfl⟩) hS0 ?hac32 ?hc32
           case hac32 => (simp only [Act.put, List.setIfInBounds_toArray, List.set_cons_zero, List.set_cons_succ, i64_w, i32_w]; rfl)
           refine takeN (i := 33) (N := some 143) (v := ?_) (a' := ?_) rfl rfl (by kernel_rfl) (by kernel_rfl) (by kernel_rfl) (fun _ _ _ h => h) (Or.inl ⟨by rfl, ?hyc33⟩) hS0 ?hac33 ?hc33
           case hyc33 => (intro w' hSw; obtain ⟨⟨s0, s1⟩, s2, s3, s4⟩ := hSw; go_simp <;> with_reducible rfl)
           case hac33 => (simp only [Act.put, List.setIfInBounds_toArray, List.set_cons_zero, List.set_cons_succ, i64_w, i32_w]; rfl)
           refine wpAnyH_done (by kernel_rfl) ?_ _
           go_wp2
           go_ret
           exact ⟨rfl, below_step HBd.out (below_step HB2.out (below_drew (Below.refl _ _)))⟩
          have hA := HA.out
          clear HA
          rw [if_neg c27] at hA
          replace c27 := Bool.eq_false_iff.mpr c27
          obtain ⟨t, A600, hA⟩ := Option.bind_eq_some_iff.mp hA
          obtain ⟨s_, A610, hA⟩ := Option.bind_eq_some_iff.mp hA
          have A60 := Aside0.mk A600
          have A61 := Aside0.mk A610
          have HA := Aside0.mk hA
          clear A600 A610 hA
          have HV2 := Aside0.mk (Kd.V_below HVd.out HB2.out)
          have HS2 := Aside0.mk (show (w2.cell? ⟨gb266, 0, none⟩ = some (.int .i64 a0_0) ∧ w2.cell? ⟨gb266, 1, none⟩ = some (.int .i64 a0_1) ∧ w2.cell? ⟨gb266, 2, none⟩ = some (.int .i64 a0_2) ∧ w2.cell? ⟨gb266, 3, none⟩ = some (.int .u64 a0_3) ∧ w2.cell? ⟨gb266, 4, none⟩ = some (.int .u64 a0_4) ∧ w2.cell? ⟨gb266, 5, none⟩ = some (.int .u64 a0_5)) ∧ (w2.cell? ⟨gn, 0, none⟩ = some (.int .u64 n0) ∧ w2.cell? ⟨gn, 1, none⟩ = some (.int .u64 n1)) ∧ (w2.cell? ⟨gp, 0, none⟩ = some (.int .u64 p0) ∧ w2.cell? ⟨gp, 1, none⟩ = some (.int .u64 p1)) ∧ w2.cell? ⟨g6, xn * 3, none⟩ = some (.int .u64 sv.f0.f0) ∧ w2.cell? ⟨g6, xn * 3 + 1, none⟩ = some (.int .u64 sv.f0.f1) ∧ w2.cell? ⟨g6, xn * 3 + 2, none⟩ = some (.slice Aa sv.f1.length da) from ⟨HS6_.out, ⟨hn0, hn1⟩, ⟨hp0, hp1⟩, xa0, xa1, xa2⟩)
          obtain ⟨q0, q1, q2, q3, q4, q5⟩ := HS6_.out
          go_region_held3 (fun w' => (w'.cell? ⟨gb266, 0, none⟩ = some (.int .i64 a0_0) ∧ w'.cell? ⟨gb266, 1, none⟩ = some (.int .i64 a0_1) ∧ w'.cell? ⟨gb266, 2, none⟩ = some (.int .i64 a0_2) ∧ w'.cell? ⟨gb266, 3, none⟩ = some (.int .u64 a0_3) ∧ w'.cell? ⟨gb266, 4, none⟩ = some (.int .u64 a0_4) ∧ w'.cell? ⟨gb266, 5, none⟩ = some (.int .u64 a0_5)) ∧ (w'.cell? ⟨gn, 0, none⟩ = some (.int .u64 n0) ∧ w'.cell? ⟨gn, 1, none⟩ = some (.int .u64 n1)) ∧ (w'.cell? ⟨gp, 0, none⟩ = some (.int .u64 p0) ∧ w'.cell? ⟨gp, 1, none⟩ = some (.int .u64 p1)) ∧ w'.cell? ⟨g6, xn * 3, none⟩ = some (.int .u64 sv.f0.f0) ∧ w'.cell? ⟨g6, xn * 3 + 1, none⟩ = some (.int .u64 sv.f0.f1) ∧ w'.cell? ⟨g6, xn * 3 + 2, none⟩ = some (.slice Aa sv.f1.length da)) (first | (with_reducible first | exact HS4.out | exact s13_below (pw_below_drewN (Below.refl _ _) _) HS4.out) | go_keep)
           (first | (go_at_call 31; (with_reducible refine (spec_RootOf.calls k a0_0 a0_1 a0_2 a0_3 a0_4 a0_5 (fun _ => True) A9 c9 y275 (IntKind.u64.wrap (p0 - a1)) (IntKind.u64.wrap (p1 - a1)) t _ ?side1 A60.out).mono ?_); (case side1 => first | exact Kd.V_drew HV2.out | exact HV2.out); rintro e w4 ⟨v4, rfl, ho, hb⟩; obtain ⟨A4, c4, rfl⟩ := Kd.V_slice ho; have HB4 := Aside0.mk (below_step (by (with_reducible first | exact below_drew (Below.refl w2.heap.size w2) | exact Below.refl _ _)) hb : Below w2.heap.size w2 w4); have X4 := Aside0.mk (Kd.V_reads' ho).2; have HS4 := Aside0.mk (s13_below HB4.out HS2.out); clear ho hb) | (go_at_call 15; (with_reducible refine (spec_SameText.calls Aa da sv.f1 A4 c4 t s_ _ ?side1 ?side2 ?side3 ?side4 A61.out).mono ?_); (case side1 => exact Kd.C_below (Kd.F_now HFa.out) HB4.out); (case side2 => exact HLa.out); (case side3 => exact X4.out.2); (case side4 => exact X4.out.1); rintro e w5_ ⟨rfl, ⟨nd, rfl⟩⟩))
          all_goals
           have HB5 := Aside0.mk (below_step HB4.out (pw_below_drewN (Below.refl _ _) nd) : Below w2.heap.size w2 (w4.drewN nd))
           clear q0 q1 q2 q3 q4 q5 xa0 xa1 xa2 hn0 hn1 hp0 hp1 HS2 HS4
           generalize w4.drewN nd = w6 at *
           have HN6_ := Aside0.mk (blk_below HN2.out HB5.out)
           have HB6 := Aside0.mk (below_step HB2.out HB5.out : Below wd.heap.size wd w6)
           have hn0 : w6.cell? ⟨gn, 0, none⟩ = some (.int .u64 n0) := (blk_cell HN6_.out 0).trans rfl
           have hn1 : w6.cell? ⟨gn, 1, none⟩ = some (.int .u64 n1) := (blk_cell HN6_.out 1).trans rfl
           have hA := HA.out
           clear HA
           by_cases c28 : s_ = true
           ·subst c28
            rw [if_pos rfl] at hA
            obtain ⟨⟨m0, m1⟩, A500, hA⟩ := Option.bind_eq_some_iff.mp hA
            dsimp only at hA
            have A50 := Aside0.mk A500
            have HA := Aside0.mk hA
            clear A500 hA
            go_wp2_with (go_at_call 29; (with_reducible refine (impl_Parent.calls n0 n1 m0 m1 _ A50.out).mono ?_); rintro e w3 ⟨rfl, hb⟩; have hk3 := blk_below (blk_new w6 (.cells #[.int .u64 n0, .int .u64 n1] 54)) hb; have HK3 := Aside0.mk hk3; have HB3 := Aside0.mk (below_step (below_alloc (Below.refl w6.heap.size w6) _) hb : Below w6.heap.size w6 w3); have fz0 := blk_frozen hk3 0; have fz1 := blk_frozen hk3 1; have cl0 : w3.cell? ⟨w6.heap.size, 0, none⟩ = some (.int .u64 n0) := (blk_cell hk3 0).trans rfl; have cl1 : w3.cell? ⟨w6.heap.size, 1, none⟩ = some (.int .u64 n1) := (blk_cell hk3 1).trans rfl; clear hb hk3)
            go_roundg k1
            case measure => have := HK.out; omega
            case rel => exact ⟨_, w6.heap.size, m0, m1, rfl, rfl, HA, ⟨by have := HK.out; omega⟩, ⟨blk_put (blk_put HK3.out 0 _ rfl) 1 _ rfl⟩, ⟨below_set (below_set (below_step HB6.out HB3.out) HB6.out.size) HB6.out.size⟩⟩
           ·rw [if_neg c28] at hA
            replace c28 := Bool.eq_false_iff.mpr c28
            subst c28
            obtain rfl := Option.some.inj hA
            go_wp2
            go_ret
            exact ⟨rfl, below_step HBd.out HB6.out⟩


end Go.Proofs.YtkmdkmlgahfcpaaDoor.M

