-- Written by a program of ours (wip/xp) out of the translation; Lean checks it.
import Derived.Test.YtkmdkmlgahfcpaaDoorSq
import Derived.Test.YtkmdkmlgahfcpaaDoorMm1
namespace Go.Proofs.YtkmdkmlgahfcpaaDoor.M
open Go.RowKit Go.Proofs.YtkmdkmlgahfcpaaDoorW.PrintWords Go.Proofs.YtkmdkmlgahfcpaaDoorW.PrintLast Go.Proofs.YtkmdkmlgahfcpaaDoorW.PrintMore
attribute [local go_sem] max2_int min2_int max_two min_two max_three min_three max_four min_four   -- for this text's walks alone
set_option linter.unusedVariables false
set_option linter.unusedSimpArgs false

/-! ### errors_New: function 80 -/
def errors_New.f (a0 : ByteArray) : Option (Option Int) := some (some 0)
theorem errors_New.calls (a0 : ByteArray) (r : Option Int) (w : World) (h : errors_New.f a0 = some r) :
  Calls Tryd.prog 80 #[.string a0] w fun e w' => ∃ (T_ : Int → TypeId) (X_ : Int → Value), e = .returned (errW T_ X_ r) ∧ Below w.heap.size w w' := by
 injection h with h
 subst h
 go_enter Tryd.func80, Tryd.ntmps80
 go_wp2
 go_ret
 exact ⟨fun _ => 178, fun _ => .pointer (some ⟨w.heap.size, 0, none⟩), rfl, (Below.refl _ _).alloc (Nat.le_refl _) _⟩

end Go.Proofs.YtkmdkmlgahfcpaaDoor.M

