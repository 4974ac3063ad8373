/- Frequent small proofs under short names. -/
import Derived.Test.YtkmdkmlgahfcpaaDoorWMore
namespace Go.Proofs.YtkmdkmlgahfcpaaDoorW.PrintWords
open Go Go.RowKit Go.Proofs.YtkmdkmlgahfcpaaDoorW.PrintLast Go.Proofs.YtkmdkmlgahfcpaaDoorW.PrintMore
theorem bB {B : Nat} {w W : World} (h : Below B w W := by repeat (first | (with_reducible first | exact HB.out | apply below_alloc | apply pw_below_drewN | apply below_drew1 | refine below_set ?_ (Aside0.out (by with_reducible assumption))) | exact HB.out)) : Below B w W := h
theorem kB {P Q : Prop} (h : P) (hf : P → Q := by intro h_; (with_reducible repeat (first | refine blk_drewN ?_ _ | refine blk_drew ?_ | refine blk_alloc ?_ _)); exact h_) : Q := hf h
theorem kR {P Q : Prop} (h : P) (hf : P → Q := by intro h_; (with_reducible repeat (first | apply Kd.R_alloc | apply Kd.R_drewN | apply Kd.R_drew)); exact h_) : Q := hf h
theorem kV {P Q : Prop} (h : P) (hf : P → Q := by intro h_; (with_reducible repeat (first | apply Kd.V_alloc | apply Kd.V_drewN | apply Kd.V_drew)); exact h_) : Q := hf h
theorem dA {p : Prop} [Decidable p] (h : decide p = true := by first | (with_reducible assumption) | assumption) : p := of_decide_eq_true h
theorem aV {P : Prop} (h : P := by (try simp only [List.map_toArray, List.map_cons, List.map_nil]); first | done | rfl | (simp only [List.length_drop, List.length_take]; rfl)) : P := h
end Go.Proofs.YtkmdkmlgahfcpaaDoorW.PrintWords
