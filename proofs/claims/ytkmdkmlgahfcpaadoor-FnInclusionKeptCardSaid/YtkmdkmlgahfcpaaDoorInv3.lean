/- Calls through an interface whose dynamic type is known, and of function values, as one step of a walk. -/
import Derived.Test.YtkmdkmlgahfcpaaDoorWMore
namespace Go.Proofs.YtkmdkmlgahfcpaaDoorW.PrintWords
open Go Go.RowKit Go.Proofs.YtkmdkmlgahfcpaaDoorW.PrintLast Go.Proofs.YtkmdkmlgahfcpaaDoorW.PrintMore
section
variable {P : Program} {ops : Array Oper} {rest : List Oper} {o : Oper} {a : Act} {W : World} {Q : Exit → Act → World → Prop}
theorem gate_invoke {r : Operand} {m : String} {as : Array Operand} {ts : Array TypeId} (_ho : o.op = .call { callee := .invoke r m, args := as, argTypes := ts }) (h : wpList P ops Q (o :: rest) a W) : wpList P ops Q (o :: rest) a W := h
theorem invokesL_ {oi : Oper} {w : World} (N : Option Tmp) (hd : oi.dst = N) (hg : oi.guard = none) {f : FuncId} {fn : Func} {r : Operand} {m : String} {as : Array Operand} {ts : Array TypeId} (hf : P.funcs[f]? = some fn) (hname : (fn.name == "runtime.NumGoroutine") = false) (hb : fn.body.isSome = true)
  (T : TypeId) (v : Value) (args full : Array Value) (hfull : #[v] ++ args = full)
  (hop : oi.op = .call { callee := .invoke r m, args := as, argTypes := ts }) (hr : a.eval r = .iface T v) (hargs : as.map a.eval = args) (hm : ∀ w : World, (method (P.types.size + Made.depth) T v m).run P w = .ok (f, v) w)
  (h : Calls P f full w fun e w' => ∃ u, e = .returned u ∧ wpList P ops Q rest (a.put N u) w') : wpList P ops Q (oi :: rest) a w := by
 subst hfull
 refine wpList_plain hg fun K hK => ?_
 have he := enters_ hf hname hb (#[v] ++ args) w
 have hrun : (execOp a.eval oi).run P w = .ok (.enter f (#[v] ++ args)) w := by
  have e1 : execOp a.eval oi = (do let d ← resolve a.eval { callee := .invoke r m, args := as, argTypes := ts } oi.type; invoke d.target d.args) := by
   unfold execOp
   rw [hop]
  rw [e1]
  have e2 : resolve a.eval { callee := .invoke r m, args := as, argTypes := ts } oi.type = pure { target := .fn (.method m) #[], args := #[Value.iface T v] ++ args } := by
   unfold resolve
   simp only [hr, hargs]
  rw [e2]
  have hm' := hm
  unfold Made.depth at hm'
  have e0 : (#[Value.iface T v] ++ args)[0]? = some (Value.iface T v) := by rw [Array.getElem?_append_left (by simp)]; rfl
  simp [invoke, callMethod, e0, hm', he, go_sem, Array.extract_append]
 unfold Oper.wp
 rw [hrun, Oper.upon_enter]
 refine h.mono fun e w'' hh => ?_
 obtain ⟨v, rfl, hk⟩ := hh
 subst hd
 exact hK _ _ hk
end
end Go.Proofs.YtkmdkmlgahfcpaaDoorW.PrintWords
