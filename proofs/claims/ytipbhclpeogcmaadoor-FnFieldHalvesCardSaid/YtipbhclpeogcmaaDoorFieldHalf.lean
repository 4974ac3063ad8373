/- FnFieldHalves: the loop over all elements, in plain numbers, and its 256 answers by the kernel. -/
import Derived.Test.YtipbhclpeogcmaaDoorFieldAns
namespace Go.Proofs.YtipbhclpeogcmaaDoor.Field
open Go Go.RowKit Go.Proofs.YtipbhclpeogcmaaDoor.Q Go.Proofs.YtipbhclpeogcmaaDoorW.PrintMore Go.Proofs.YtipbhclpeogcmaaDoorW.PrintWords Go.Proofs.YtipbhclpeogcmaaDoorW.PrintLast
set_option linter.unusedVariables false
set_option linter.unusedSimpArgs false
def sq (y : Nat) : Nat := R (P y y)
theorem sq_eq (y : Nat) (h : y < 256) : gm y y = sq y := (gm_eq y y h h).symm
def fnd (a : Nat) : Nat → Nat → List Nat
  | 0, _ => []
  | n + 1, y => bif Nat.beq (sq y ^^^ y) a then y :: fnd a n (y + 1) else fnd a n (y + 1)
def tr : Nat → Nat → Nat → Nat
  | 0, _, out => out
  | n + 1, a, out => tr n (sq a) (out ^^^ a)
def two1 : List Nat → Bool
  | [x, y] => Nat.beq (x ^^^ y) 1 && Nat.ble x 255 && Nat.ble y 255
  | _ => false
def okH (a : Nat) : Bool := bif Nat.beq (tr 8 a 0) 0 then two1 (fnd a 256 0) else (fnd a 256 0).isEmpty
theorem okH_all : ∀ a : Fin 256, okH a.val = true := by decide +kernel
def ci (n : Nat) : Int := (n : Int)
theorem sq_lt (y : Nat) (h : y < 256) : sq y < 256 := by rw [← sq_eq y h]; exact gm_lt y y h h
theorem xor_lt (a b : Nat) (ha : a < 256) (hb : b < 256) : a ^^^ b < 256 := Nat.xor_lt_two_pow (n := 8) ha hb
theorem half_loop (a : Nat) (r : Bool) : ∀ (n y : Nat) (acc : List Int), y + n = 256 → acc.length ≤ y → Ev (fun k => laws_FnFieldHalves.l0 k (a : Int) (acc ++ (fnd a n y).map ci) 256) r →
    Ev (fun k => laws_FnFieldHalves.l0 k (a : Int) acc (y : Int)) r
  | 0, y, acc, h, hl, hr => by
    obtain rfl : y = 256 := by omega
    unfold fnd at hr
    rw [List.map_nil, List.append_nil] at hr
    exact hr
  | n + 1, y, acc, h, hl, hr => by
    have hy : y < 256 := by omega
    refine Ev.step (fun k => laws_FnFieldHalves.l0.eq_2 _ _ _ _) ?_
    have c1 : (y : Int) < 256 := by omega
    have e1 : (y : Int) % 256 = (y : Int) := by omega
    have hx := xor_lt _ _ (sq_lt y hy) hy
    simp only [if_pos c1, e1, impl_Mul_f y y hy hy, impl_Add_f, Option.bind_some, sq_eq y hy, u8_xor_nat (sq y) y (sq_lt y hy) hy, wrap_nat y (by omega)]
    unfold fnd at hr
    have c2 : acc.length < 140737488355328 := by omega
    by_cases he : sq y ^^^ y = a
    · have hb : Nat.beq (sq y ^^^ y) a = true := by rw [he]; exact Nat.beq_refl a
      have he2 : ((sq y ^^^ y : Nat) : Int) = (a : Int) := by rw [he]
      rw [hb, cond_true, List.map_cons] at hr
      simp only [if_pos he2, if_pos c2]
      refine half_loop a r n (y + 1) _ (by omega) (by rw [List.length_append]; simp; omega) ?_
      rw [List.append_assoc]
      exact hr
    · have hb : Nat.beq (sq y ^^^ y) a = false := by
        rw [Bool.eq_false_iff]
        intro hb
        exact he (Nat.eq_of_beq_eq_true hb)
      have he2 : ¬ ((sq y ^^^ y : Nat) : Int) = (a : Int) := by omega
      rw [hb, cond_false] at hr
      simp only [if_neg he2]
      exact half_loop a r n (y + 1) _ (by omega) (by omega) hr
theorem trace_loop : ∀ (n i a out : Nat), i + n = 8 → a < 256 → out < 256 → Ev (fun k => spec_Trace.l0 k (a : Int) (out : Int) (i : Int)) ((tr n a out : Nat) : Int)
  | 0, i, a, out, h, ha, ho => by
    refine Ev.step (fun k => spec_Trace.l0.eq_2 _ _ _ _) ?_
    have c1 : ¬ (i : Int) < 8 := by omega
    simp only [if_neg c1]
    exact Ev.now _
  | n + 1, i, a, out, h, ha, ho => by
    refine Ev.step (fun k => spec_Trace.l0.eq_2 _ _ _ _) ?_
    have c1 : (i : Int) < 8 := by omega
    simp only [if_pos c1, u8_xor_nat out a ho ha, wrap_nat i (by omega)]
    refine Ev.bind (mul_ev a a ha ha) ?_
    rw [sq_eq a ha]
    exact trace_loop n (i + 1) (sq a) (out ^^^ a) (by omega) (sq_lt a ha) (xor_lt _ _ ho ha)
theorem trace_ev (a : Nat) (ha : a < 256) : Ev (fun k => spec_Trace.f k (a : Int)) ((tr 8 a 0 : Nat) : Int) := trace_loop 8 0 a 0 (by decide) ha (by decide)
theorem half_end (a : Nat) (ha : a < 256) : Ev (fun k => laws_FnFieldHalves.l0 k (a : Int) ((fnd a 256 0).map ci) 256) true := by
  have hk : okH a = true := okH_all ⟨a, ha⟩
  unfold okH at hk
  refine Ev.step (fun k => laws_FnFieldHalves.l0.eq_2 _ _ _ _) ?_
  have c1 : ¬ (256 : Int) < 256 := by decide
  simp only [if_neg c1]
  refine Ev.bind (trace_ev a ha) ?_
  generalize fnd a 256 0 = L at *
  by_cases h0 : tr 8 a 0 = 0
  · rw [h0] at hk ⊢
    have c2 : ((0 : Nat) : Int) = 0 := rfl
    have hk2 : two1 L = true := hk
    clear hk
    match L, hk2 with
    | [x, y], hk2 =>
      unfold two1 at hk2
      rw [Bool.and_eq_true, Bool.and_eq_true] at hk2
      obtain ⟨⟨h1, h2⟩, h3⟩ := hk2
      have h1 := Nat.eq_of_beq_eq_true h1
      have h2 := Nat.le_of_ble_eq_true h2
      have h3 := Nat.le_of_ble_eq_true h3
      have c3 : ((([x, y].map ci).length : Nat) : Int) = 2 := rfl
      have c4 : 0 < ((([x, y].map ci).length : Nat) : Int) := by rw [c3]; decide
      have c5 : 1 < ((([x, y].map ci).length : Nat) : Int) := by rw [c3]; decide
      simp only [if_pos c2, if_pos c3, if_pos c4, if_pos c5]
      have e1 : rd ([x, y].map ci) 0 = (x : Int) := rfl
      have e2 : rd ([x, y].map ci) 1 = (y : Int) := rfl
      rw [e1, e2, u8_xor_nat x y (by omega) (by omega), h1]
      exact Ev.now _
  · have hb : Nat.beq (tr 8 a 0) 0 = false := by
      rw [Bool.eq_false_iff]
      intro hb
      exact h0 (Nat.eq_of_beq_eq_true hb)
    rw [hb, cond_false, List.isEmpty_iff] at hk
    subst hk
    have c2 : ¬ ((tr 8 a 0 : Nat) : Int) = 0 := by omega
    simp only [if_neg c2]
    exact Ev.now _
theorem halves_ev (a0 : Int) (w0 : (Lit.int .u8 a0).wf = true) : Ev (fun k => laws_FnFieldHalves.f k a0) true := by
  obtain ⟨a, rfl, ha⟩ := nat_u8 w0
  exact half_loop a true 256 0 [] (by decide) (by decide) (half_end a ha)
end Go.Proofs.YtipbhclpeogcmaaDoor.Field
