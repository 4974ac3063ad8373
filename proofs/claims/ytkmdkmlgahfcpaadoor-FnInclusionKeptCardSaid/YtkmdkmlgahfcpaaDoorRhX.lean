/- Calls of closures; what a visitor keeps. -/
import Derived.Test.YtkmdkmlgahfcpaaDoorRhW
namespace Go.Proofs.YtkmdkmlgahfcpaaDoorW.PrintWords
open Go Go.RowKit Go.Proofs.YtkmdkmlgahfcpaaDoorW.PrintLast Go.Proofs.YtkmdkmlgahfcpaaDoorW.PrintMore
set_option linter.unusedVariables false
set_option linter.unusedSimpArgs false
def IsFc (P : Program) (fv : Value) (f : FuncId) (cap : Array Value) : Prop :=
 ∀ (args : Array Value) (w : World), (do let d ← Deferred.ofValue fv args; invoke d.target d.args : Sem Next).run P w = .ok (.enter f (args ++ cap)) w
section
variable {P : Program} {ops : Array Oper} {rest : List Oper} {o : Oper} {a : Act} {W : World} {Q : Exit → Act → World → Prop}
theorem callsFc_ {oi : Oper} {w : World} (N : Option Tmp) (hd : oi.dst = N) (hg : oi.guard = none) {f : FuncId} {x : Operand} {az : Array Operand} {ts : Array TypeId} (fv : Value) (cap : Array Value) (hv : IsFc P fv f cap) (args full : Array Value) (hfull : args ++ cap = full)
  (hop : oi.op = .call { callee := .value x, args := az, argTypes := ts }) (hx : a.eval x = fv) (hargs : az.map a.eval = args)
  (h : Calls P f full w fun e w' => ∃ u, e = .returned u ∧ wpList P ops Q rest (a.put N u) w') : wpList P ops Q (oi :: rest) a w := by
 subst hfull
 refine wpList_plain hg fun K hK => ?_
 have hrun : (execOp a.eval oi).run P w = .ok (.enter f (args ++ cap)) w := by
  have e1 : execOp a.eval oi = (do let d ← resolve a.eval { callee := .value x, args := az, argTypes := ts } oi.type; invoke d.target d.args) := by
   unfold execOp
   rw [hop]
  have e2 : resolve a.eval { callee := .value x, args := az, argTypes := ts } oi.type = Deferred.ofValue fv args := by
   unfold resolve
   simp only [hx, hargs]
  rw [e1, e2]
  exact hv args w
 unfold Oper.wp
 rw [hrun, Oper.upon_enter]
 refine h.mono fun e w'' hh => ?_
 obtain ⟨v, rfl, hk⟩ := hh
 subst hd
 exact hK _ _ hk
theorem isFc_func {f : FuncId} {fn : Func} (hf : P.funcs[f]? = some fn) (hname : (fn.name == "runtime.NumGoroutine") = false) (hb : fn.body.isSome = true) (cap : Array Value) : IsFc P (.func (.func f) #[] cap) f cap := by
 intro args w
 have he := enters_ hf hname hb (args ++ cap) w
 simpa [Deferred.ofValue, invoke, go_sem] using he
end
def Two (t1 t2 : TypeId) (o : Obj) : Prop := ∃ cs fl, o = .cells cs t1 fl ∨ o = .cells cs t2 fl
def TKeep (t1 t2 : TypeId) (w w' : World) : Prop := w.heap.size ≤ w'.heap.size ∧ ∀ (k : Nat) (o : Obj), w.heap[k]? = some o → ¬ Two t1 t2 o → w'.heap[k]? = some o
section
variable {t1 t2 : TypeId} {w w1 w2 : World}
theorem TKeep.refl (w : World) : TKeep t1 t2 w w := ⟨Nat.le_refl _, fun _ _ h _ => h⟩
theorem TKeep.trans (h : TKeep t1 t2 w w1) (h2 : TKeep t1 t2 w1 w2) : TKeep t1 t2 w w2 := ⟨Nat.le_trans h.1 h2.1, fun k o hk ht => h2.2 k o (h.2 k o hk ht) ht⟩
theorem TKeep.of_below (h : Below w.heap.size w w1) : TKeep t1 t2 w w1 := ⟨h.size, fun k o hk _ => (h.block k (blk_lt hk)).trans hk⟩
theorem TKeep.below (h : TKeep t1 t2 w w1) (hb : Below w1.heap.size w1 w2) : TKeep t1 t2 w w2 := h.trans (.of_below hb)
theorem TKeep.blk {g : Nat} {cs : Array Value} {t : TypeId} {fl : Nat × Nat} (h : TKeep t1 t2 w w1) (hb : w.heap[g]? = some (.cells cs t fl)) (h1 : t ≠ t1) (h2 : t ≠ t2) : w1.heap[g]? = some (.cells cs t fl) :=
 h.2 g _ hb (by rintro ⟨cs', fl', e | e⟩ <;> · injection e with _ e; first | exact h1 e | exact h2 e)
theorem TKeep.R {α : Type} {d : Kd α} {e base : Nat} {ok : Nat → Prop} {v : Value} {xs : List α} (h : TKeep t1 t2 w w1) (hr : d.R e w base ok v xs) (hq : ∀ q, q ∈ e :: d.E → q ≠ t1 ∧ q ≠ t2) : d.R e w1 base ok v xs := by
 refine Kd.R_mono (Kd.R_move (Kd.R_bound hr) (fun k hk => ?_)) (fun _ hk => hk.1)
 obtain ⟨_, _, _, q, hq1, cells, hc⟩ := hk
 rw [hc]
 exact h.blk hc (hq q hq1).1 (hq q hq1).2
theorem TKeep.grown {row : Option Nat} (h : TKeep t1 t2 w w1) (hg : w1.grownBy w2 row) (hr : ∀ k, row = some k → ∃ o, w1.heap[k]? = some o ∧ Two t1 t2 o) : TKeep t1 t2 w w2 := by
 refine h.trans ⟨hg.size, fun k o hk ht => ?_⟩
 rw [hg.block k (blk_lt hk) (fun e => ?_)]
 ·exact hk
 ·obtain ⟨o', h1, h2⟩ := hr k e.symm
  rw [hk] at h1
  injection h1 with h1
  subst h1
  exact ht h2
theorem TKeep.set {p : Addr} {o : Obj} (h : TKeep t1 t2 w w1) (hp : w1.heap[p.block]? = some o) (ht : Two t1 t2 o) (u : Value) : TKeep t1 t2 w (w1.setCell p u) := by
 refine h.trans ⟨by rw [World.size_setCell]; exact Nat.le_refl _, fun k o' hk hn => ?_⟩
 rw [Below.heap_setCell w1 p u k (fun e => ?_)]
 ·exact hk
 ·subst e
  rw [hp] at hk
  injection hk with hk
  subst hk
  exact hn ht
end
end Go.Proofs.YtkmdkmlgahfcpaaDoorW.PrintWords
