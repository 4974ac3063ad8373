/- An error that bears two texts (a mismatch of roots), another error, or none, as one value out of its parts. -/
import Derived.Test.YtkmdkmlgahfcpaaDoorWMore
namespace Go.Proofs.YtkmdkmlgahfcpaaDoorW.PrintWords
open Go Go.RowKit
def errVc (cs : Array Value) : Value := match cs.toList with
 | [.int _ 0, _, _, _] => .nilIface
 | [.int _ 1, _, v1, v2] => .iface 142 (.agg #[v1, v2])
 | [_, .slice A _ _, _, _] => .iface 178 (.pointer A)
 | _ => .nilIface
theorem errVc0 (k : IntKind) (a b c : Value) : errVc #[.int k 0, a, b, c] = .nilIface := rfl
theorem errVc1 (k : IntKind) (a b c : Value) : errVc #[.int k 1, a, b, c] = .iface 142 (.agg #[b, c]) := rfl
theorem errVc2 (k : IntKind) (A : Option Addr) (n m : Nat) (b c : Value) : errVc #[.int k 2, .slice A n m, b, c] = .iface 178 (.pointer A) := rfl
end Go.Proofs.YtkmdkmlgahfcpaaDoorW.PrintWords
