/- FnInclusionKept: the contracts of what the laws call, over memory that is only read; ranges put into a slice. -/
import Derived.Test.YtkmdkmlgahfcpaaDoorM
namespace Go.Proofs.YtkmdkmlgahfcpaaDoor.M
open Go Go.RowKit Go.Proofs.YtkmdkmlgahfcpaaDoorW.PrintWords Go.Proofs.YtkmdkmlgahfcpaaDoorW.PrintLast Go.Proofs.YtkmdkmlgahfcpaaDoorW.PrintMore
set_option linter.unusedVariables false
set_option linter.unusedSimpArgs false
abbrev HsB (W : World) (g : Nat) (a0 a1 a2 a3 a4 a5 : Int) : Prop := W.heap[g]? = some (.cells #[.int .i64 a0, .int .i64 a1, .int .i64 a2, .int .u64 a3, .int .u64 a4, .int .u64 a5] 24 (0, 0))
abbrev RgC (W : World) (g : Nat) (b e : Int) (v : Value) : Prop := W.heap[g]? = some (.cells #[.int .u64 b, .int .u64 e, v] 39 (0, 0))
abbrev RowC (W : World) (A : Option Addr) (c : Nat) (l : List (List Int)) : Prop := l.length ≤ c ∧ Kd.C (Kd.slice 5 (Kd.int .u8)) W A l.length l
abbrev TxtC (W : World) (A : Option Addr) (c : Nat) (l : List Int) : Prop := l.length ≤ c ∧ Kd.C (Kd.int .u8) W A l.length l
theorem HsB.cells {W : World} {g : Nat} {a0 a1 a2 a3 a4 a5 : Int} (h : HsB W g a0 a1 a2 a3 a4 a5) : W.cell? ⟨g, 0, none⟩ = some (.int .i64 a0) ∧ W.cell? ⟨g, 1, none⟩ = some (.int .i64 a1) ∧ W.cell? ⟨g, 2, none⟩ = some (.int .i64 a2) ∧ W.cell? ⟨g, 3, none⟩ = some (.int .u64 a3) ∧ W.cell? ⟨g, 4, none⟩ = some (.int .u64 a4) ∧ W.cell? ⟨g, 5, none⟩ = some (.int .u64 a5) :=
 ⟨(blk_cell h 0).trans rfl, (blk_cell h 1).trans rfl, (blk_cell h 2).trans rfl, (blk_cell h 3).trans rfl, (blk_cell h 4).trans rfl, (blk_cell h 5).trans rfl⟩
theorem RgC.cells {W : World} {g : Nat} {b e : Int} {v : Value} (h : RgC W g b e v) : W.cell? ⟨g, 0, none⟩ = some (.int .u64 b) ∧ W.cell? ⟨g, 1, none⟩ = some (.int .u64 e) ∧ W.cell? ⟨g, 2, none⟩ = some v :=
 ⟨(blk_cell h 0).trans rfl, (blk_cell h 1).trans rfl, (blk_cell h 2).trans rfl⟩
theorem RowC.below {W W' : World} {A : Option Addr} {c : Nat} {l : List (List Int)} (h : RowC W A c l) (hb : Below W.heap.size W W') : RowC W' A c l := ⟨h.1, Kd.C_below h.2 hb⟩
theorem TxtC.below {W W' : World} {A : Option Addr} {c : Nat} {l : List Int} (h : TxtC W A c l) (hb : Below W.heap.size W W') : TxtC W' A c l := ⟨h.1, Kd.C_below h.2 hb⟩
theorem leafC (a0 : Int) (A1 : Option Addr) (c1 : Nat) (l1 : List Int) (W : World) (h1 : TxtC W A1 c1 l1) : Calls Tryd.prog 39 #[.int .u64 a0, .slice A1 l1.length c1] W fun e w' => (∃ A c, e = .returned (.agg #[.int .u64 a0, .int .u64 (IntKind.u64.wrap (a0 + 1)), .slice A 1 c]) ∧ RowC w' A c [l1]) ∧ Below W.heap.size W w' := 
 (laws_growthLeaf.calls a0 (fun k_ => k_ < W.heap.size) A1 c1 l1 _ _ _ W (Kd.V_mk h1.1 (Kd.C_F (Kd.heap_int _) h1.2)) rfl).mono (by rintro e w' ⟨v, rfl, hN, hB⟩; obtain ⟨A, c, rfl, hl, hC⟩ := Kd.N_reads hN; exact ⟨⟨A, c, rfl, hl, hC⟩, hB⟩)
theorem hashesC (k : Nat) (A0 : Option Addr) (c0 : Nat) (l0 : List S54) (A1 : Option Addr) (n1 c1 : Nat) (l1 : List S39) (hn : l1.length = n1) (r1 : List (List Int)) (r2 : Bool) (W : World) (h0 : Kd.C k54 W A0 l0.length l0) (hc0 : l0.length ≤ c0) (h1 : Kd.C k39 W A1 l1.length l1) (hc1 : n1 ≤ c1) (h : laws_growthHashes.f k l0 l1 = some (r1, r2)) : Calls Tryd.prog 75 #[.slice A0 l0.length c0, .slice A1 n1 c1] W fun e w' => (∃ A c, e = .returned (.tuple #[.slice A r1.length c, .bool r2]) ∧ RowC w' A c r1) ∧ Below W.heap.size W w' := by
 subst hn
 exact
 (laws_growthHashes.calls k A0 c0 l0 (fun k_ => k_ < W.heap.size) A1 c1 l1 r1 r2 W h0 hc0 (Kd.V_mk hc1 (Kd.C_F k39_heap h1)) h).mono (by rintro e w' ⟨v, rfl, hN, hB⟩; obtain ⟨A, c, rfl, hl, hC⟩ := Kd.N_reads hN; exact ⟨⟨A, c, rfl, hl, hC⟩, hB⟩)
theorem rootC (k : Nat) (a0 a1 a2 a3 a4 a5 : Int) (A : Option Addr) (n c : Nat) (l : List S39) (hn : l.length = n) (r1 : List Int) (r2 : Bool) (W : World) (hT : TabOK W) (hr : Kd.C k39 W A l.length l) (hc : n ≤ c) (h : laws_growthRoot.f k a0 a1 a2 a3 a4 a5 l = some (r1, r2)) : Calls Tryd.prog 73 #[.agg #[.int .i64 a0, .int .i64 a1, .int .i64 a2, .int .u64 a3, .int .u64 a4, .int .u64 a5], .slice A n c] W fun e w' => (∃ A c, e = .returned (.tuple #[.slice A r1.length c, .bool r2]) ∧ TxtC w' A c r1) ∧ Below W.heap.size W w' := by
 subst hn
 exact
 (laws_growthRoot.calls k a0 a1 a2 a3 a4 a5 A c l r1 r2 W hT hr hc h).mono (by rintro e w' ⟨v, rfl, hR, hB⟩; obtain ⟨A, c, rfl⟩ := Kd.R_slice hR; exact ⟨⟨A, c, rfl, (Kd.R_reads' hR).2⟩, hB⟩)
theorem inclC (k : Nat) (x y : Int) (r1 : List S54) (r2 r3 r4 r5 : Int) (r6 : Bool) (W : World) (hT : TabOK W) (h : impl_Inclusion.f k x y = some (r1, r2, r3, r4, r5, r6)) : Calls Tryd.prog 74 #[.int .u64 x, .int .u64 y] W fun e w' => (∃ A c, e = .returned (.tuple #[.agg #[.slice A r1.length c, .int .u64 r2, .int .u64 r3, .int .i64 r4, .int .i64 r5], .bool r6]) ∧ r1.length ≤ c ∧ Kd.C k54 w' A r1.length r1) ∧ Below W.heap.size W w' := 
 (impl_Inclusion.calls k x y r1 r2 r3 r4 r5 r6 W hT h).mono (by rintro e w' ⟨v, rfl, hR, hB⟩; obtain ⟨A, c, rfl⟩ := Kd.R_slice hR; exact ⟨⟨A, c, rfl, (Kd.R_reads' hR).2⟩, hB⟩)
theorem inclCH (k : Nat) (a0 a1 a2 a3 a4 a5 : Int) (x y : Int) (A3 : Option Addr) (c3 : Nat) (l3 : List (List Int)) (r1 : List (List Int)) (r2 : Bool) (W : World) (hT : TabOK W) (h3 : RowC W A3 c3 l3) (h : impl_InclusionHashes.f k a0 a1 a2 a3 a4 a5 x y l3 = some (r1, r2)) : Calls Tryd.prog 76 #[.agg #[.int .i64 a0, .int .i64 a1, .int .i64 a2, .int .u64 a3, .int .u64 a4, .int .u64 a5], .int .u64 x, .int .u64 y, .slice A3 l3.length c3] W fun e w' => (∃ A c, e = .returned (.tuple #[.slice A r1.length c, .bool r2]) ∧ RowC w' A c r1) ∧ Below W.heap.size W w' := 
 (impl_InclusionHashes.calls k a0 a1 a2 a3 a4 a5 x y A3 c3 l3 r1 r2 W hT h3.2 h3.1 h).mono (by rintro e w' ⟨v, rfl, hS, hB⟩; have hR := Kd.S_R hS; obtain ⟨A, c, rfl⟩ := Kd.R_slice hR; exact ⟨⟨A, c, rfl, (Kd.R_reads' hR).2⟩, hB⟩)
theorem consC (k : Nat) (x y : Int) (r1 : List S54) (r2 r3 r4 r5 : Int) (r6 : Bool) (W : World) (hT : TabOK W) (h : impl_Consistency.f k x y = some (r1, r2, r3, r4, r5, r6)) : Calls Tryd.prog 34 #[.int .u64 x, .int .u64 y] W fun e w' => (∃ A c, e = .returned (.tuple #[.agg #[.slice A r1.length c, .int .u64 r2, .int .u64 r3, .int .i64 r4, .int .i64 r5], .bool r6]) ∧ r1.length ≤ c ∧ Kd.C k54 w' A r1.length r1) ∧ Below W.heap.size W w' := 
 (impl_Consistency.calls k x y r1 r2 r3 r4 r5 r6 W hT h).mono (by rintro e w' ⟨v, rfl, hR, hB⟩; obtain ⟨A, c, rfl⟩ := Kd.R_slice hR; exact ⟨⟨A, c, rfl, (Kd.R_reads' hR).2⟩, hB⟩)
theorem consCH (k : Nat) (a0 a1 a2 a3 a4 a5 : Int) (x y : Int) (A3 : Option Addr) (c3 : Nat) (l3 : List (List Int)) (r1 : List (List Int)) (r2 : Bool) (W : World) (hT : TabOK W) (h3 : RowC W A3 c3 l3) (h : impl_ConsistencyHashes.f k a0 a1 a2 a3 a4 a5 x y l3 = some (r1, r2)) : Calls Tryd.prog 36 #[.agg #[.int .i64 a0, .int .i64 a1, .int .i64 a2, .int .u64 a3, .int .u64 a4, .int .u64 a5], .int .u64 x, .int .u64 y, .slice A3 l3.length c3] W fun e w' => (∃ A c, e = .returned (.tuple #[.slice A r1.length c, .bool r2]) ∧ RowC w' A c r1) ∧ Below W.heap.size W w' := 
 (impl_ConsistencyHashes.calls k a0 a1 a2 a3 a4 a5 x y A3 c3 l3 r1 r2 W hT h3.2 h3.1 h).mono (by rintro e w' ⟨v, rfl, hS, hB⟩; have hR := Kd.S_R hS; obtain ⟨A, c, rfl⟩ := Kd.R_slice hR; exact ⟨⟨A, c, rfl, (Kd.R_reads' hR).2⟩, hB⟩)
theorem vInclC (k : Nat) (a0 a1 a2 a3 a4 a5 : Int) (x y : Int) (A3 : Option Addr) (c3 : Nat) (l3 : List Int) (A4 : Option Addr) (c4 : Nat) (l4 : List (List Int)) (A5 : Option Addr) (c5 : Nat) (l5 : List Int) (r1 : Int) (r2 : List Int) (W : World) (h3 : TxtC W A3 c3 l3) (h4 : RowC W A4 c4 l4) (h5 : TxtC W A5 c5 l5) (h : impl_VerifyInclusion.f k a0 a1 a2 a3 a4 a5 x y l3 l4 l5 = some (r1, r2)) : Calls Tryd.prog 32 #[.agg #[.int .i64 a0, .int .i64 a1, .int .i64 a2, .int .u64 a3, .int .u64 a4, .int .u64 a5], .int .u64 x, .int .u64 y, .slice A3 l3.length c3, .slice A4 l4.length c4, .slice A5 l5.length c5] W fun e w' => (∃ v : Value, e = .returned (.tuple #[.int .i64 r1, v])) ∧ Below W.heap.size W w' := 
 (impl_VerifyInclusion.calls k a0 a1 a2 a3 a4 a5 x y A3 c3 l3 A4 c4 l4 A5 c5 l5 r1 r2 W h3.2 h3.1 h4.2 h4.1 h5.2 h5.1 h).mono (by rintro e w' ⟨v, rfl, hR, hB⟩; exact ⟨⟨v, rfl⟩, hB⟩)
theorem vConsC (k : Nat) (a0 a1 a2 a3 a4 a5 : Int) (x y : Int) (A3 : Option Addr) (c3 : Nat) (l3 : List (List Int)) (A4 : Option Addr) (c4 : Nat) (l4 : List Int) (A5 : Option Addr) (c5 : Nat) (l5 : List Int) (r1 : Int) (r2 : List Int) (W : World) (hT : TabOK W) (h3 : RowC W A3 c3 l3) (h4 : TxtC W A4 c4 l4) (h5 : TxtC W A5 c5 l5) (h : impl_VerifyConsistency.f k a0 a1 a2 a3 a4 a5 x y l3 l4 l5 = some (r1, r2)) : Calls Tryd.prog 18 #[.agg #[.int .i64 a0, .int .i64 a1, .int .i64 a2, .int .u64 a3, .int .u64 a4, .int .u64 a5], .int .u64 x, .int .u64 y, .slice A3 l3.length c3, .slice A4 l4.length c4, .slice A5 l5.length c5] W fun e w' => (∃ v : Value, e = .returned (.tuple #[.int .i64 r1, v])) ∧ Below W.heap.size W w' := 
 (impl_VerifyConsistency.calls k a0 a1 a2 a3 a4 a5 x y A3 c3 l3 A4 c4 l4 A5 c5 l5 r1 r2 W hT h3.2 h3.1 h4.2 h4.1 h5.2 h5.1 h).mono (by rintro e w' ⟨v, rfl, hR, hB⟩; exact ⟨⟨v, rfl⟩, hB⟩)
theorem pathC (k : Nat) (x y : Int) (r : List S57) (W : World) (h : spec_PathParts.f k x y = some r) : Calls Tryd.prog 68 #[.int .u64 x, .int .u64 y] W fun e w' => (∃ A c, e = .returned (.slice A r.length c)) ∧ Below W.heap.size W w' := 
 (spec_PathParts.calls k x y r W h).mono (by rintro e w' ⟨v, rfl, hR, hB⟩; obtain ⟨A, c, rfl⟩ := Kd.R_slice hR; exact ⟨⟨A, c, rfl⟩, hB⟩)
theorem proofC (k : Nat) (x y : Int) (r : List S57) (W : World) (h : spec_ProofParts.f k x y = some r) : Calls Tryd.prog 50 #[.int .u64 x, .int .u64 y] W fun e w' => (∃ A c, e = .returned (.slice A r.length c)) ∧ Below W.heap.size W w' := 
 (spec_ProofParts.calls k x y r W h).mono (by rintro e w' ⟨v, rfl, hR, hB⟩; obtain ⟨A, c, rfl⟩ := Kd.R_slice hR; exact ⟨⟨A, c, rfl⟩, hB⟩)
theorem appC (k : Nat) (a0 a1 a2 a3 a4 a5 : Int) (b e : Int) (A1 : Option Addr) (c1 : Nat) (l1 : List (List Int)) (b2 e2 : Int) (A2 : Option Addr) (n2 c2 : Nat) (l2 : List (List Int)) (hn : l2.length = n2) (r0 r1 : Int) (r2 : List (List Int)) (r3 : List S60) (r4 : Bool) (W : World) (hT : TabOK W) (h1 : RowC W A1 c1 l1) (h2 : RowC W A2 c2 l2) (h : impl_AppendRange.f k a0 a1 a2 a3 a4 a5 b e l1 b2 e2 l2 = some (r0, r1, r2, r3, r4)) : Calls Tryd.prog 27 #[.agg #[.int .i64 a0, .int .i64 a1, .int .i64 a2, .int .u64 a3, .int .u64 a4, .int .u64 a5], .agg #[.int .u64 b, .int .u64 e, .slice A1 l1.length c1], .agg #[.int .u64 b2, .int .u64 e2, .slice A2 n2 c2]] W fun e w' => (∃ A c v, e = .returned (.tuple #[.agg #[.int .u64 r0, .int .u64 r1, .slice A r2.length c], v, .bool r4]) ∧ RowC w' A c r2) ∧ Below W.heap.size W w' := by
 subst hn
 exact
 (impl_AppendRange.calls k a0 a1 a2 a3 a4 a5 b e A1 c1 l1 b2 e2 A2 c2 l2 r0 r1 r2 r3 r4 W hT h1.2 h1.1 h2.2 h2.1 h).mono (by rintro e w' ⟨v0, v1, rfl, hS, hR, hB⟩; have hR := Kd.S_R hS; obtain ⟨A, c, rfl⟩ := Kd.R_slice hR; exact ⟨⟨A, c, _, rfl, (Kd.R_reads' hR).2⟩, hB⟩)
theorem nextC (k : Nat) (A : Option Addr) (n c : Nat) (l : List S39) (hn : l.length = n) (r : Bool) (W : World) (hr : Kd.C k39 W A l.length l) (hc : n ≤ c) (h : laws_growthNext.f k l = some r) : Calls Tryd.prog 40 #[.slice A n c] W fun e w' => (e = .returned (.bool r)) ∧ Below W.heap.size W w' := by
 subst hn
 exact
 (laws_growthNext.calls k A c l r W hr hc h).mono (by rintro e w' ⟨rfl, hB⟩; exact ⟨rfl, hB⟩)
theorem buildC1 {W : World} {g : Nat} {b0 e0 : Int} {A0 : Option Addr} {c0 : Nat} {l0 : List (List Int)} (hK : W.heap[g]? = some (.cells #[.int .u64 b0, .int .u64 e0, .slice A0 l0.length c0] 39 (0, 0))) (h0 : RowC W A0 c0 l0) : Kd.C k39 W (some ⟨g, 0, none⟩) 1 [⟨b0, e0, l0⟩] := by
 refine ⟨rfl, by decide, fun _ => ⟨_, rfl, fun j p hj => ?_⟩⟩
 match j, hj with
 | 0, hj =>
  injection hj with hj
  subst hj
  refine ⟨[.int .u64 b0, .int .u64 e0, .slice A0 l0.length c0], rfl, k39_mk W ⟨b0, e0, l0⟩ h0.1 h0.2, fun i u hu => ?_⟩
  match i, hu with
  | 0, hu => injection hu with hu; subst hu; exact (blk_cell hK 0).trans rfl
  | 1, hu => injection hu with hu; subst hu; exact (blk_cell hK 1).trans rfl
  | 2, hu => injection hu with hu; subst hu; exact (blk_cell hK 2).trans rfl
theorem buildC2 {W : World} {g : Nat} {b0 e0 : Int} {A0 : Option Addr} {c0 : Nat} {l0 : List (List Int)} {b1 e1 : Int} {A1 : Option Addr} {c1 : Nat} {l1 : List (List Int)} (hK : W.heap[g]? = some (.cells #[.int .u64 b0, .int .u64 e0, .slice A0 l0.length c0, .int .u64 b1, .int .u64 e1, .slice A1 l1.length c1] 39 (0, 0))) (h0 : RowC W A0 c0 l0) (h1 : RowC W A1 c1 l1) : Kd.C k39 W (some ⟨g, 0, none⟩) 2 [⟨b0, e0, l0⟩, ⟨b1, e1, l1⟩] := by
 refine ⟨rfl, by decide, fun _ => ⟨_, rfl, fun j p hj => ?_⟩⟩
 match j, hj with
 | 0, hj =>
  injection hj with hj
  subst hj
  refine ⟨[.int .u64 b0, .int .u64 e0, .slice A0 l0.length c0], rfl, k39_mk W ⟨b0, e0, l0⟩ h0.1 h0.2, fun i u hu => ?_⟩
  match i, hu with
  | 0, hu => injection hu with hu; subst hu; exact (blk_cell hK 0).trans rfl
  | 1, hu => injection hu with hu; subst hu; exact (blk_cell hK 1).trans rfl
  | 2, hu => injection hu with hu; subst hu; exact (blk_cell hK 2).trans rfl
 | 1, hj =>
  injection hj with hj
  subst hj
  refine ⟨[.int .u64 b1, .int .u64 e1, .slice A1 l1.length c1], rfl, k39_mk W ⟨b1, e1, l1⟩ h1.1 h1.2, fun i u hu => ?_⟩
  match i, hu with
  | 0, hu => injection hu with hu; subst hu; exact (blk_cell hK 3).trans rfl
  | 1, hu => injection hu with hu; subst hu; exact (blk_cell hK 4).trans rfl
  | 2, hu => injection hu with hu; subst hu; exact (blk_cell hK 5).trans rfl
theorem buildC3 {W : World} {g : Nat} {b0 e0 : Int} {A0 : Option Addr} {c0 : Nat} {l0 : List (List Int)} {b1 e1 : Int} {A1 : Option Addr} {c1 : Nat} {l1 : List (List Int)} {b2 e2 : Int} {A2 : Option Addr} {c2 : Nat} {l2 : List (List Int)} (hK : W.heap[g]? = some (.cells #[.int .u64 b0, .int .u64 e0, .slice A0 l0.length c0, .int .u64 b1, .int .u64 e1, .slice A1 l1.length c1, .int .u64 b2, .int .u64 e2, .slice A2 l2.length c2] 39 (0, 0))) (h0 : RowC W A0 c0 l0) (h1 : RowC W A1 c1 l1) (h2 : RowC W A2 c2 l2) : Kd.C k39 W (some ⟨g, 0, none⟩) 3 [⟨b0, e0, l0⟩, ⟨b1, e1, l1⟩, ⟨b2, e2, l2⟩] := by
 refine ⟨rfl, by decide, fun _ => ⟨_, rfl, fun j p hj => ?_⟩⟩
 match j, hj with
 | 0, hj =>
  injection hj with hj
  subst hj
  refine ⟨[.int .u64 b0, .int .u64 e0, .slice A0 l0.length c0], rfl, k39_mk W ⟨b0, e0, l0⟩ h0.1 h0.2, fun i u hu => ?_⟩
  match i, hu with
  | 0, hu => injection hu with hu; subst hu; exact (blk_cell hK 0).trans rfl
  | 1, hu => injection hu with hu; subst hu; exact (blk_cell hK 1).trans rfl
  | 2, hu => injection hu with hu; subst hu; exact (blk_cell hK 2).trans rfl
 | 1, hj =>
  injection hj with hj
  subst hj
  refine ⟨[.int .u64 b1, .int .u64 e1, .slice A1 l1.length c1], rfl, k39_mk W ⟨b1, e1, l1⟩ h1.1 h1.2, fun i u hu => ?_⟩
  match i, hu with
  | 0, hu => injection hu with hu; subst hu; exact (blk_cell hK 3).trans rfl
  | 1, hu => injection hu with hu; subst hu; exact (blk_cell hK 4).trans rfl
  | 2, hu => injection hu with hu; subst hu; exact (blk_cell hK 5).trans rfl
 | 2, hj =>
  injection hj with hj
  subst hj
  refine ⟨[.int .u64 b2, .int .u64 e2, .slice A2 l2.length c2], rfl, k39_mk W ⟨b2, e2, l2⟩ h2.1 h2.2, fun i u hu => ?_⟩
  match i, hu with
  | 0, hu => injection hu with hu; subst hu; exact (blk_cell hK 6).trans rfl
  | 1, hu => injection hu with hu; subst hu; exact (blk_cell hK 7).trans rfl
  | 2, hu => injection hu with hu; subst hu; exact (blk_cell hK 8).trans rfl
theorem buildC4 {W : World} {g : Nat} {b0 e0 : Int} {A0 : Option Addr} {c0 : Nat} {l0 : List (List Int)} {b1 e1 : Int} {A1 : Option Addr} {c1 : Nat} {l1 : List (List Int)} {b2 e2 : Int} {A2 : Option Addr} {c2 : Nat} {l2 : List (List Int)} {b3 e3 : Int} {A3 : Option Addr} {c3 : Nat} {l3 : List (List Int)} (hK : W.heap[g]? = some (.cells #[.int .u64 b0, .int .u64 e0, .slice A0 l0.length c0, .int .u64 b1, .int .u64 e1, .slice A1 l1.length c1, .int .u64 b2, .int .u64 e2, .slice A2 l2.length c2, .int .u64 b3, .int .u64 e3, .slice A3 l3.length c3] 39 (0, 0))) (h0 : RowC W A0 c0 l0) (h1 : RowC W A1 c1 l1) (h2 : RowC W A2 c2 l2) (h3 : RowC W A3 c3 l3) : Kd.C k39 W (some ⟨g, 0, none⟩) 4 [⟨b0, e0, l0⟩, ⟨b1, e1, l1⟩, ⟨b2, e2, l2⟩, ⟨b3, e3, l3⟩] := by
 refine ⟨rfl, by decide, fun _ => ⟨_, rfl, fun j p hj => ?_⟩⟩
 match j, hj with
 | 0, hj =>
  injection hj with hj
  subst hj
  refine ⟨[.int .u64 b0, .int .u64 e0, .slice A0 l0.length c0], rfl, k39_mk W ⟨b0, e0, l0⟩ h0.1 h0.2, fun i u hu => ?_⟩
  match i, hu with
  | 0, hu => injection hu with hu; subst hu; exact (blk_cell hK 0).trans rfl
  | 1, hu => injection hu with hu; subst hu; exact (blk_cell hK 1).trans rfl
  | 2, hu => injection hu with hu; subst hu; exact (blk_cell hK 2).trans rfl
 | 1, hj =>
  injection hj with hj
  subst hj
  refine ⟨[.int .u64 b1, .int .u64 e1, .slice A1 l1.length c1], rfl, k39_mk W ⟨b1, e1, l1⟩ h1.1 h1.2, fun i u hu => ?_⟩
  match i, hu with
  | 0, hu => injection hu with hu; subst hu; exact (blk_cell hK 3).trans rfl
  | 1, hu => injection hu with hu; subst hu; exact (blk_cell hK 4).trans rfl
  | 2, hu => injection hu with hu; subst hu; exact (blk_cell hK 5).trans rfl
 | 2, hj =>
  injection hj with hj
  subst hj
  refine ⟨[.int .u64 b2, .int .u64 e2, .slice A2 l2.length c2], rfl, k39_mk W ⟨b2, e2, l2⟩ h2.1 h2.2, fun i u hu => ?_⟩
  match i, hu with
  | 0, hu => injection hu with hu; subst hu; exact (blk_cell hK 6).trans rfl
  | 1, hu => injection hu with hu; subst hu; exact (blk_cell hK 7).trans rfl
  | 2, hu => injection hu with hu; subst hu; exact (blk_cell hK 8).trans rfl
 | 3, hj =>
  injection hj with hj
  subst hj
  refine ⟨[.int .u64 b3, .int .u64 e3, .slice A3 l3.length c3], rfl, k39_mk W ⟨b3, e3, l3⟩ h3.1 h3.2, fun i u hu => ?_⟩
  match i, hu with
  | 0, hu => injection hu with hu; subst hu; exact (blk_cell hK 9).trans rfl
  | 1, hu => injection hu with hu; subst hu; exact (blk_cell hK 10).trans rfl
  | 2, hu => injection hu with hu; subst hu; exact (blk_cell hK 11).trans rfl
theorem put5 {w : World} {g t : Nat} {a b c d e : Value} (h : w.heap[g]? = some (.cells #[a, b, c, d, e] t (0, 0))) (x y z u v : Value) : (((((w.setCell ⟨g, 0, none⟩ x).setCell ⟨g, 1, none⟩ y).setCell ⟨g, 2, none⟩ z).setCell ⟨g, 3, none⟩ u).setCell ⟨g, 4, none⟩ v).heap[g]? = some (.cells #[x, y, z, u, v] t (0, 0)) := blk_put (blk_put (blk_put (blk_put (blk_put h 0 _ rfl) 1 _ rfl) 2 _ rfl) 3 _ rfl) 4 _ rfl
theorem below_set5 {w w' : World} {B g : Nat} (h : Below B w w') (hg : B ≤ g) (x y z u v : Value) : Below B w (((((w'.setCell ⟨g, 0, none⟩ x).setCell ⟨g, 1, none⟩ y).setCell ⟨g, 2, none⟩ z).setCell ⟨g, 3, none⟩ u).setCell ⟨g, 4, none⟩ v) := ((below_set3 h hg x y z).setCell hg _).setCell hg _
theorem three_blocks (w : World) (o0 o1 o2 : Obj) (w3 : World) (hw3 : w3 = ((w.alloc o0).alloc o1).alloc o2) :
  Below w.heap.size w w3 ∧ w3.heap[w.heap.size]? = some o0 ∧ w3.heap[w.heap.size + 1]? = some o1 ∧ w3.heap[w.heap.size + 1 + 1]? = some o2 := by
 obtain ⟨h1, _, h3, h4⟩ := four_blocksR w o0 o1 o2 w3 hw3
 refine ⟨h1, ?_, h3, h4⟩
 subst hw3
 exact blk_alloc (blk_alloc (blk_new _ _) _) _
end Go.Proofs.YtkmdkmlgahfcpaaDoor.M
