/- Frequent steps of walks under short names. -/
import Derived.Test.YtkmdkmlgahfcpaaDoorSq
import Derived.Test.YtkmdkmlgahfcpaaDoorWTab
import Derived.WalkKit
namespace Go.Proofs.YtkmdkmlgahfcpaaDoorW.PrintWords
open Go Go.RowKit Go.Proofs.YtkmdkmlgahfcpaaDoorW.PrintLast Go.Proofs.YtkmdkmlgahfcpaaDoorW.PrintMore
abbrev ff := false
abbrev tt := true
section
variable {P : Program} {ops : Array Oper} {Q : Exit → Act → World → Prop} {md : Region.Mode} {S : World → Prop} {ds : List Nat} {T : Bool × List (List Nat × List Nat)} {oi : Oper} {v : Value} {fuel : Nat} {l : Array Bool} {a a' : Act} {w : World}
theorem pA (i : Nat) (N : Option Tmp) (l' : Array Bool) (hT : Aside0 (rtab md ops = T)) (h : wpAnyLast P md ops Q S ds fuel l' a' w) (hi : ops[i]? = some oi := by rfl) (hN : oi.dst = N := by rfl) (hc : anyT T l.toList l'.toList i = true := by kernel_rfl)
    (hQ : ∀ c a w, Q (.panic c) (a.put oi.dst v) w → Q (.panic c) a w := by intro _ _ _ h_; exact h_) (hw : Region.wanted oi (yielded ops a.tmps) = true := by rfl) (hy : ∀ w, (execOp a.eval oi).run P w = .ok (.value v) w := by intro w'; go_simp; with_reducible rfl)
    (ha : a.put N v = a' := by simp only [Act.put, List.setIfInBounds_toArray, List.set_cons_zero, List.set_cons_succ, i64_w, i32_w]; rfl) : wpAnyLast P md ops Q S ds (fuel + 1) l a w := pure_ (v := v) l' hi hN (any_of hT.out hc) hQ (Or.inl ⟨hw, hy⟩) ha h
theorem tA (i : Nat) (N : Option Tmp) (l' : Array Bool) (hi : ops[i]? = some oi) (hN : oi.dst = N) (hT : Aside0 (rtab md ops = T)) {B : List Nat} (hB : Aside0 (waitsOk T.2 B = true)) (hS : S w) (hy : ∀ w, S w → (execOp a.eval oi).run P w = .ok (.value v) w) (h : wpAnyLast P md ops Q S ds fuel l' a' w) (hc : takeW T B ds l.toList l'.toList i = true := by kernel_rfl)
    (hQ : ∀ c a w, Q (.panic c) (a.put oi.dst v) w → Q (.panic c) a w := by intro _ _ _ h_; exact h_) (hw : Region.wanted oi (yielded ops a.tmps) = true := by rfl)
    (ha : a.put N v = a' := by simp only [Act.put, List.setIfInBounds_toArray, List.set_cons_zero, List.set_cons_succ, i64_w, i32_w]; rfl) : wpAnyLast P md ops Q S ds (fuel + 1) l a w := take_ (v := v) l' hi hN (take_ofW hT.out hB.out hc) hQ (Or.inl ⟨hw, hy⟩) hS ha h
theorem nA (h : wpAnyLast P md ops Q S ds fuel l a' w) (ha : a = a' := by simp only [Act.put, List.setIfInBounds_toArray, List.set_cons_zero, List.set_cons_succ, i64_w, i32_w]; rfl) : wpAnyLast P md ops Q S ds fuel l a w := norm_ ha h
theorem nS (h : wpAnyLast P md ops Q S ds fuel l a' w) (ha : a = a' := by show Act.put _ (some _) _ = _; simp only [Act.put, List.setIfInBounds_toArray, List.set_cons_zero, List.set_cons_succ, i64_w, i32_w]; rfl) : wpAnyLast P md ops Q S ds fuel l a w := norm_ ha h
theorem nB (h : wpAnyLast P md ops Q S ds fuel l a' w) (ha : a = a' := by simp only [putAll, Act.put, List.setIfInBounds_toArray, List.set_cons_zero, List.set_cons_succ]; rfl) : wpAnyLast P md ops Q S ds fuel l a w := norm_ ha h
theorem nC (h : wpAnyLast P md ops Q S ds fuel l a' w) (ha : a = a' := by first | (simp only [putAll, Act.put, List.setIfInBounds_toArray, List.set_cons_zero, List.set_cons_succ]; done) | (simp only [putAll, Act.put, List.setIfInBounds_toArray, List.set_cons_zero, List.set_cons_succ]; rfl)) : wpAnyLast P md ops Q S ds fuel l a w := norm_ ha h
end
theorem zM {p : Prop} (h : p) : Aside0 p := ⟨h⟩
theorem sR {p : Prop} (h : p := by first | rfl | (simp; done) | (simp [*]; done)) : p := h
theorem gB {a b g : Nat} (hg : g = b) (h : a ≤ b := by exact (below_size bB)) : a ≤ g := hg ▸ h
theorem bK {g : Nat} {o : Obj} {w0 W W' : World} (h0 : Aside0 (w0.heap[g]? = some o)) (hb : Below W.heap.size W W') (hf : w0.heap[g]? = some o → W.heap[g]? = some o := by intro h_; (with_reducible repeat (first | refine blk_drewN ?_ _ | refine blk_drew ?_ | refine blk_alloc ?_ _)); exact h_) : W'.heap[g]? = some o := blk_below (hf h0.out) hb
theorem bx {P : Program} {ops : Array Oper} {Q : Exit → Act → World → Prop} {o : Oper} {rest : List Oper} {a : Act} {W : World} (N : Tmp) (cs : Array Value) (t : TypeId) (h : ∀ g, g = W.heap.size → ∀ w1, w1.heap[g]? = some (.cells cs t (0, 0)) → Below W.heap.size W w1 → wpList P ops Q rest (a.put o.dst (.pointer (some ⟨g, 0, none⟩))) w1)
    (hd : o.dst = some N := by rfl) (hg : o.guard = none := by rfl) (hr : (execOp a.eval o).run P W = .ok (.value (.pointer (some ⟨W.heap.size, 0, none⟩))) (W.alloc (.cells cs t (0, 0))) := by first | (go_simp; done) | (go_simp; rfl)) : wpList P ops Q (o :: rest) a W := box_event hg hd hr h
theorem kU {P Q : Prop} (h : P) (hf : P → Q := by intro h_; (with_reducible repeat (first | refine blk_drewN ?_ _ | refine blk_drew ?_ | refine blk_alloc ?_ _)); exact h_) : Q := hf h
theorem vR {P Q : Prop} (h : P) (hf : P → Q := by intro h_; (with_reducible repeat (first | apply Kd.R_alloc | apply Kd.R_drewN | apply Kd.R_drew)); exact h_) : Q := hf h
theorem vS {P Q : Prop} (h : P) (hf : P → Q := by intro h_; (with_reducible repeat (first | apply Kd.S_alloc | apply Kd.S_drewN | apply Kd.S_drew)); exact h_) : Q := hf h
theorem vN {P Q : Prop} (h : P) (hf : P → Q := by intro h_; (with_reducible repeat (first | apply Kd.N_alloc | apply Kd.N_drewN | apply Kd.N_drew)); exact h_) : Q := hf h
theorem vV {P Q : Prop} (h : P) (hf : P → Q := by intro h_; (with_reducible repeat (first | apply Kd.V_alloc | apply Kd.V_drewN | apply Kd.V_drew)); exact h_) : Q := hf h
section
variable {w : World} {g t : Nat} {z : Nat × Nat} {c0 c1 c2 c3 c4 c5 : Value}
theorem h1 (h : Aside0 (w.heap[g]? = some (.cells #[c0] t (0, 0)))) : w.cell? ⟨g, 0, none⟩ = some c0 := (blk_cell h.out 0).trans rfl
theorem h2 (h : Aside0 (w.heap[g]? = some (.cells #[c0, c1] t (0, 0)))) : w.cell? ⟨g, 0, none⟩ = some c0 ∧ w.cell? ⟨g, 1, none⟩ = some c1 := ⟨(blk_cell h.out 0).trans rfl, (blk_cell h.out 1).trans rfl⟩
theorem f2 (h : Aside0 (w.heap[g]? = some (.cells #[c0, c1] t (0, 0)))) : w.frozen? ⟨g, 0, none⟩ = false ∧ w.frozen? ⟨g, 1, none⟩ = false := ⟨blk_frozen h.out 0, blk_frozen h.out 1⟩
theorem h3 (h : Aside0 (w.heap[g]? = some (.cells #[c0, c1, c2] t (0, 0)))) : w.cell? ⟨g, 0, none⟩ = some c0 ∧ w.cell? ⟨g, 1, none⟩ = some c1 ∧ w.cell? ⟨g, 2, none⟩ = some c2 := ⟨(blk_cell h.out 0).trans rfl, (blk_cell h.out 1).trans rfl, (blk_cell h.out 2).trans rfl⟩
theorem f3 (h : Aside0 (w.heap[g]? = some (.cells #[c0, c1, c2] t (0, 0)))) : w.frozen? ⟨g, 0, none⟩ = false ∧ w.frozen? ⟨g, 1, none⟩ = false ∧ w.frozen? ⟨g, 2, none⟩ = false := ⟨blk_frozen h.out 0, blk_frozen h.out 1, blk_frozen h.out 2⟩
theorem h4 (h : Aside0 (w.heap[g]? = some (.cells #[c0, c1, c2, c3] t (0, 0)))) : w.cell? ⟨g, 0, none⟩ = some c0 ∧ w.cell? ⟨g, 1, none⟩ = some c1 ∧ w.cell? ⟨g, 2, none⟩ = some c2 ∧ w.cell? ⟨g, 3, none⟩ = some c3 := ⟨(blk_cell h.out 0).trans rfl, (blk_cell h.out 1).trans rfl, (blk_cell h.out 2).trans rfl, (blk_cell h.out 3).trans rfl⟩
theorem f4 (h : Aside0 (w.heap[g]? = some (.cells #[c0, c1, c2, c3] t (0, 0)))) : w.frozen? ⟨g, 0, none⟩ = false ∧ w.frozen? ⟨g, 1, none⟩ = false ∧ w.frozen? ⟨g, 2, none⟩ = false ∧ w.frozen? ⟨g, 3, none⟩ = false := ⟨blk_frozen h.out 0, blk_frozen h.out 1, blk_frozen h.out 2, blk_frozen h.out 3⟩
theorem h5 (h : Aside0 (w.heap[g]? = some (.cells #[c0, c1, c2, c3, c4] t (0, 0)))) : w.cell? ⟨g, 0, none⟩ = some c0 ∧ w.cell? ⟨g, 1, none⟩ = some c1 ∧ w.cell? ⟨g, 2, none⟩ = some c2 ∧ w.cell? ⟨g, 3, none⟩ = some c3 ∧ w.cell? ⟨g, 4, none⟩ = some c4 := ⟨(blk_cell h.out 0).trans rfl, (blk_cell h.out 1).trans rfl, (blk_cell h.out 2).trans rfl, (blk_cell h.out 3).trans rfl, (blk_cell h.out 4).trans rfl⟩
theorem f5 (h : Aside0 (w.heap[g]? = some (.cells #[c0, c1, c2, c3, c4] t (0, 0)))) : w.frozen? ⟨g, 0, none⟩ = false ∧ w.frozen? ⟨g, 1, none⟩ = false ∧ w.frozen? ⟨g, 2, none⟩ = false ∧ w.frozen? ⟨g, 3, none⟩ = false ∧ w.frozen? ⟨g, 4, none⟩ = false := ⟨blk_frozen h.out 0, blk_frozen h.out 1, blk_frozen h.out 2, blk_frozen h.out 3, blk_frozen h.out 4⟩
theorem h6 (h : Aside0 (w.heap[g]? = some (.cells #[c0, c1, c2, c3, c4, c5] t (0, 0)))) : w.cell? ⟨g, 0, none⟩ = some c0 ∧ w.cell? ⟨g, 1, none⟩ = some c1 ∧ w.cell? ⟨g, 2, none⟩ = some c2 ∧ w.cell? ⟨g, 3, none⟩ = some c3 ∧ w.cell? ⟨g, 4, none⟩ = some c4 ∧ w.cell? ⟨g, 5, none⟩ = some c5 := ⟨(blk_cell h.out 0).trans rfl, (blk_cell h.out 1).trans rfl, (blk_cell h.out 2).trans rfl, (blk_cell h.out 3).trans rfl, (blk_cell h.out 4).trans rfl, (blk_cell h.out 5).trans rfl⟩
theorem f6 (h : Aside0 (w.heap[g]? = some (.cells #[c0, c1, c2, c3, c4, c5] t (0, 0)))) : w.frozen? ⟨g, 0, none⟩ = false ∧ w.frozen? ⟨g, 1, none⟩ = false ∧ w.frozen? ⟨g, 2, none⟩ = false ∧ w.frozen? ⟨g, 3, none⟩ = false ∧ w.frozen? ⟨g, 4, none⟩ = false ∧ w.frozen? ⟨g, 5, none⟩ = false := ⟨blk_frozen h.out 0, blk_frozen h.out 1, blk_frozen h.out 2, blk_frozen h.out 3, blk_frozen h.out 4, blk_frozen h.out 5⟩
abbrev C2 (w : World) (g : Nat) (c0 c1 : Value) : Prop := w.cell? ⟨g, 0, none⟩ = some c0 ∧ w.cell? ⟨g, 1, none⟩ = some c1
abbrev C3 (w : World) (g : Nat) (c0 c1 c2 : Value) : Prop := w.cell? ⟨g, 0, none⟩ = some c0 ∧ w.cell? ⟨g, 1, none⟩ = some c1 ∧ w.cell? ⟨g, 2, none⟩ = some c2
abbrev C4 (w : World) (g : Nat) (c0 c1 c2 c3 : Value) : Prop := w.cell? ⟨g, 0, none⟩ = some c0 ∧ w.cell? ⟨g, 1, none⟩ = some c1 ∧ w.cell? ⟨g, 2, none⟩ = some c2 ∧ w.cell? ⟨g, 3, none⟩ = some c3
abbrev C5 (w : World) (g : Nat) (c0 c1 c2 c3 c4 : Value) : Prop := w.cell? ⟨g, 0, none⟩ = some c0 ∧ w.cell? ⟨g, 1, none⟩ = some c1 ∧ w.cell? ⟨g, 2, none⟩ = some c2 ∧ w.cell? ⟨g, 3, none⟩ = some c3 ∧ w.cell? ⟨g, 4, none⟩ = some c4
abbrev C6 (w : World) (g : Nat) (c0 c1 c2 c3 c4 c5 : Value) : Prop := w.cell? ⟨g, 0, none⟩ = some c0 ∧ w.cell? ⟨g, 1, none⟩ = some c1 ∧ w.cell? ⟨g, 2, none⟩ = some c2 ∧ w.cell? ⟨g, 3, none⟩ = some c3 ∧ w.cell? ⟨g, 4, none⟩ = some c4 ∧ w.cell? ⟨g, 5, none⟩ = some c5
end
end Go.Proofs.YtkmdkmlgahfcpaaDoorW.PrintWords
