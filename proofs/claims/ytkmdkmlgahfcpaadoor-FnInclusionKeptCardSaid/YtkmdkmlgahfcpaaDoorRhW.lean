/- Calls of function values; rows of texts that are written; what Rehash makes of hashes. -/
import Derived.Test.YtkmdkmlgahfcpaaDoorInv3
import Derived.Test.YtkmdkmlgahfcpaaDoorProg
namespace Go.Proofs.YtkmdkmlgahfcpaaDoorW.PrintWords
open Go Go.RowKit Go.Proofs.YtkmdkmlgahfcpaaDoorW.PrintLast Go.Proofs.YtkmdkmlgahfcpaaDoorW.PrintMore
set_option linter.unusedVariables false
set_option linter.unusedSimpArgs false
def IsFn (P : Program) (fv : Value) (f : FuncId) (v : Value) : Prop :=
 ∀ (args : Array Value) (w : World), (do let d ← Deferred.ofValue fv args; invoke d.target d.args : Sem Next).run P w = .ok (.enter f (#[v] ++ args)) w
section
variable {P : Program} {ops : Array Oper} {rest : List Oper} {o : Oper} {a : Act} {W : World} {Q : Exit → Act → World → Prop}
theorem gate_value {x : Operand} {az : Array Operand} {ts : Array TypeId} (_ho : o.op = .call { callee := .value x, args := az, argTypes := ts }) (h : wpList P ops Q (o :: rest) a W) : wpList P ops Q (o :: rest) a W := h
theorem callsFv_ {oi : Oper} {w : World} (N : Option Tmp) (hd : oi.dst = N) (hg : oi.guard = none) {f : FuncId} {x : Operand} {az : Array Operand} {ts : Array TypeId} (fv v : Value) (hv : IsFn P fv f v) (args full : Array Value) (hfull : #[v] ++ args = full)
  (hop : oi.op = .call { callee := .value x, args := az, argTypes := ts }) (hx : a.eval x = fv) (hargs : az.map a.eval = args)
  (h : Calls P f full w fun e w' => ∃ u, e = .returned u ∧ wpList P ops Q rest (a.put N u) w') : wpList P ops Q (oi :: rest) a w := by
 subst hfull
 refine wpList_plain hg fun K hK => ?_
 have hrun : (execOp a.eval oi).run P w = .ok (.enter f (#[v] ++ args)) w := by
  have e1 : execOp a.eval oi = (do let d ← resolve a.eval { callee := .value x, args := az, argTypes := ts } oi.type; invoke d.target d.args) := by
   unfold execOp
   rw [hop]
  have e2 : resolve a.eval { callee := .value x, args := az, argTypes := ts } oi.type = Deferred.ofValue fv args := by
   unfold resolve
   simp only [hx, hargs]
  rw [e1, e2]
  exact hv args w
 unfold Oper.wp
 rw [hrun, Oper.upon_enter]
 refine h.mono fun e w'' hh => ?_
 obtain ⟨v, rfl, hk⟩ := hh
 subst hd
 exact hK _ _ hk
theorem isFn_func {f : FuncId} {fn : Func} (hf : P.funcs[f]? = some fn) (hname : (fn.name == "runtime.NumGoroutine") = false) (hb : fn.body.isSome = true) (v : Value) : IsFn P (.func (.func f) #[v] #[]) f v := by
 intro args w
 have he := enters_ hf hname hb (#[v] ++ args) w
 simpa [Deferred.ofValue, invoke, go_sem] using he
end
theorem R_putrow2 {W : World} {B gh n cap : Nat} {xs : List (List Int)} (h : (Kd.slice 5 (Kd.int .u8)).R 27 W B (fun _ => True) (.slice (some ⟨gh, 0, none⟩) n cap) xs) {i : Nat} (hi : i < xs.length) {u : Value} {x : List Int}
  (hu : (Kd.int .u8).R 5 W B (fun _ => True) u x) : (Kd.slice 5 (Kd.int .u8)).R 27 (W.setCell ⟨gh, i, none⟩ u) B (fun _ => True) (.slice (some ⟨gh, 0, none⟩) n cap) (xs.set i x) := by
 have hty := Kd.R_typed h
 have hn := (Kd.R_reads' h).1
 subst hn
 obtain ⟨h0, inner, ho, hr⟩ := h
 have hs := (ho.stored i u).1
 have hinn : inner.length = xs.length := by rw [hr.1]; simp [Kd.slice]
 refine ⟨fun _ _ => trivial, inner.set i u, by rw [List.length_set]; exact hs, ?_⟩
 have h1 := hr.imp_ (R' := (Kd.slice 5 (Kd.int .u8)).M (W.setCell ⟨gh, i, none⟩ u) B (fun k => True ∧ some k ≠ (Value.slice (some ⟨gh, 0, none⟩) xs.length cap).ownBlock))
  (fun p c hp => Kd.M_far hp (fun k hk e => hk.2 (by simp [Value.ownBlock, e])) u)
 have hM : (Kd.slice 5 (Kd.int .u8)).M (W.setCell ⟨gh, i, none⟩ u) B (fun k => True ∧ some k ≠ (Value.slice (some ⟨gh, 0, none⟩) xs.length cap).ownBlock) x [u] :=
  ⟨u, rfl, Kd.R_far (p := ⟨gh, i, none⟩) (Kd.R_apart' hu hty (by decide)) (fun k hk e => hk.2 (by simp [Value.ownBlock, e])) u⟩
 have h2 := Kd.reps_set h1 hi hM rfl
 have e : inner.take (i * 1) ++ [u] ++ inner.drop ((i + 1) * 1) = inner.set i u := by
  rw [Nat.mul_one, Nat.mul_one, List.set_eq_take_append_cons_drop, if_pos (by omega)]
  simp
 rw [← e]
 exact h2
theorem row_elem2 {w : World} {B gh n c : Nat} {hs : List (List Int)} (h : (Kd.slice 5 (Kd.int .u8)).R 27 w B (fun _ => True) (.slice (some ⟨gh, 0, none⟩) n c) hs) (i : Nat) (hi : i < n) :
  ∃ A d, w.cell? ⟨gh, i, none⟩ = some (.slice A (hs.getD i []).length d) ∧ (Kd.int .u8).R 5 w B (fun _ => True) (.slice A (hs.getD i []).length d) (hs.getD i []) := by
 obtain ⟨cc, hcl, hM, hcell⟩ := Kd.R_getA h ([] : List Int) (i : Int) (by omega) (by omega)
 obtain ⟨ve, rfl, hE⟩ := hM
 rw [Int.toNat_natCast] at hE
 have e := hcell 0 _ rfl
 rw [show (Kd.slice 5 (Kd.int .u8)).sz = 1 from rfl, Nat.mul_one, Nat.add_zero, add_at, Nat.zero_add, Int.toNat_natCast] at e
 obtain ⟨A, d, rfl⟩ := Kd.R_slice hE
 exact ⟨A, d, e, Kd.R_mono hE (fun _ _ => trivial)⟩
theorem row_form2 {w : World} {B : Nat} {v : Value} {hs : List (List Int)} (h : (Kd.slice 5 (Kd.int .u8)).R 27 w B (fun _ => True) v hs) (hn : 0 < hs.length) :
  ∃ gh c, v = .slice (some ⟨gh, 0, none⟩) hs.length c ∧ B ≤ gh ∧ gh < w.heap.size ∧ ∃ cells, w.heap[gh]? = some (.cells cells 27 (0, 0)) := Kd.R_form h hn |>.elim fun g hg => hg.elim fun c h2 => ⟨g, c, h2⟩
def rhFold (hc : List Int → List Int → Option (List Int)) : List Int → List (List Int) → Option (List Int)
 | acc, [] => some acc
 | acc, x :: rest => (hc x acc).bind fun y => rhFold hc y rest
def rhGo (hc : List Int → List Int → Option (List Int)) (b e : Nat) : Nat → Nat → List (List Int) → List (List Int) → Option (List (List Int))
 | 0, _, _, _ => none
 | n + 1, i, done, [] => some done
 | n + 1, i, done, x :: rest => if b ≤ i ∧ i < e then (rhFold hc x (rest.take (e - i - 1))).bind fun y => rhGo hc b e n e (done ++ [y]) (rest.drop (e - i - 1)) else rhGo hc b e n (i + 1) (done ++ [x]) rest
theorem put_take {α : Type} {xs done : List α} {y : α} (h1 : xs.take done.length = done) (h2 : done.length < xs.length) : (xs.set done.length y).take (done.length + 1) = done ++ [y] := by
 rw [List.take_succ_eq_append_getElem (by simpa using h2)]
 congr 1
 ·rw [List.take_set_of_le (Nat.le_refl _), h1]
 ·simp
theorem put_drop {α : Type} {xs : List α} {j i : Nat} {y : α} (h : j < i) : (xs.set j y).drop i = xs.drop i := List.drop_set_of_lt h
end Go.Proofs.YtkmdkmlgahfcpaaDoorW.PrintWords
