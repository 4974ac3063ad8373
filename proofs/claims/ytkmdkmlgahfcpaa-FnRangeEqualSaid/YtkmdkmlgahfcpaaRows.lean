/-
  No cell of these rows narrows 'for every input' (looked for: loops, veiled, ifaces, maps, wideKeys, modest, calm, conditions, laid).
  DERIVED. THE GIVEN ROWS OF THIS SEAT. 3 by the template 'for every input the law returns true; each argument reads behind the call as it read before'; 0 by the template 'total and deterministic' (their statements: YtkmdkmlgahfcpaaTotals.lean).
  GIVEN WITH THE SEED: the statements are not yours to turn. If you find one false, say at which input.
  Laid BY PROGRAM, IN A SANDBOX (cutbox-rows.mjs): the forced cells as the released guide's own fill.sh prints them over the translation 281f7abfc59e089a… (all of the seat's roots in one cut). By AI agents, Wed Nov 11 2026. No macro, syntax, notation, axiom, sorry.
-/
import Derived.Test.YtkmdkmlgahfcpaaChecked
import GoSem.Claim
import GoSem.ClaimJoined
import GoSem.ClaimMapViews
import Derived.JoinedTies
import Derived.KernelRfl
namespace Go.Proofs.Ytkmdkmlgahfcpaa
/- THE CELL 'sum', in the pinned program and in every row, IS THE sha256 OF THE DUMP (.gsa) THAT YtkmdkmlgahfcpaaProg.lean LOADS. Nothing in Lean hashes anything: it is a label: what it is worth is what the hold of that sum in a sandbox is worth. -/
noncomputable def Try.pinned : Pinned := { name := "ytkmdkmlgahfcpaa", sum := "281f7abfc59e089a09a332d40b6a9ee8d9833be736f13ced2ab50105202c0fc8", checked := Try.checked }
namespace Rows
def none {H : Type} : Left H := { results := [], args := [] }

/-- 'laws.FnRangeEqual': WHATEVER THE INPUT: true; the input reads as it did. -/
def fnRangeEqualSpec : ChangeSpec := { name := "fnRangeEqual", fn := fun _ => fun
  | [d1, d2] => { results := [.lit (.bool true)], args := [d1, d2] }
  | _ => none }
def fnRangeEqualRow : OpenClaim := { program := "ytkmdkmlgahfcpaa", sum := "281f7abfc59e089a09a332d40b6a9ee8d9833be736f13ced2ab50105202c0fc8", func := "pub-sarsen/laws.FnRangeEqual", spec := "fnRangeEqual", apart := false }
def FnRangeEqualSaid : Prop := fnRangeEqualRow.holds Try.pinned (OpenSpec.ofChange fnRangeEqualSpec)

/-- ITS FALSE NEIGHBOUR: 'it returns false'. Refute it at one input. -/
def fnRangeEqualWrong : ChangeSpec := { name := "fnRangeEqual", fn := fun _ => fun
  | [d1, d2] => { results := [.lit (.bool false)], args := [d1, d2] }
  | _ => none }
def FnRangeEqualWrongFalsely : Prop := fnRangeEqualRow.holds Try.pinned (OpenSpec.ofChange fnRangeEqualWrong)

/-- 'laws.FnRootByChains': WHATEVER THE INPUT: true; the input reads as it did. -/
def fnRootByChainsSpec : ChangeSpec := { name := "fnRootByChains", fn := fun _ => fun
  | [d1, d2, d3, d4, d5] => { results := [.lit (.bool true)], args := [d1, d2, d3, d4, d5] }
  | _ => none }
def fnRootByChainsRow : OpenClaim := { program := "ytkmdkmlgahfcpaa", sum := "281f7abfc59e089a09a332d40b6a9ee8d9833be736f13ced2ab50105202c0fc8", func := "pub-sarsen/laws.FnRootByChains", spec := "fnRootByChains", unfollowed := true, recurses := true, apart := false }
def FnRootByChainsSaid : Prop := fnRootByChainsRow.holds Try.pinned (OpenSpec.ofChange fnRootByChainsSpec)

/-- ITS FALSE NEIGHBOUR: 'it returns false'. Refute it at one input. -/
def fnRootByChainsWrong : ChangeSpec := { name := "fnRootByChains", fn := fun _ => fun
  | [d1, d2, d3, d4, d5] => { results := [.lit (.bool false)], args := [d1, d2, d3, d4, d5] }
  | _ => none }
def FnRootByChainsWrongFalsely : Prop := fnRootByChainsRow.holds Try.pinned (OpenSpec.ofChange fnRootByChainsWrong)

/-- 'laws.FnVerifyInclusion': WHATEVER THE INPUT: true; the input reads as it did. -/
def fnVerifyInclusionSpec : ChangeSpec := { name := "fnVerifyInclusion", fn := fun _ => fun
  | [d1, d2, d3, d4, d5, d6] => { results := [.lit (.bool true)], args := [d1, d2, d3, d4, d5, d6] }
  | _ => none }
def fnVerifyInclusionRow : OpenClaim := { program := "ytkmdkmlgahfcpaa", sum := "281f7abfc59e089a09a332d40b6a9ee8d9833be736f13ced2ab50105202c0fc8", func := "pub-sarsen/laws.FnVerifyInclusion", spec := "fnVerifyInclusion", unfollowed := true, recurses := true, apart := false }
def FnVerifyInclusionSaid : Prop := fnVerifyInclusionRow.holds Try.pinned (OpenSpec.ofChange fnVerifyInclusionSpec)

/-- ITS FALSE NEIGHBOUR: 'it returns false'. Refute it at one input. -/
def fnVerifyInclusionWrong : ChangeSpec := { name := "fnVerifyInclusion", fn := fun _ => fun
  | [d1, d2, d3, d4, d5, d6] => { results := [.lit (.bool false)], args := [d1, d2, d3, d4, d5, d6] }
  | _ => none }
def FnVerifyInclusionWrongFalsely : Prop := fnVerifyInclusionRow.holds Try.pinned (OpenSpec.ofChange fnVerifyInclusionWrong)

/- THE SECOND FORM. 'bulk': how many values and letters a reading holds, each counted each time it is reached (what is shared counts as often as it is met; a slice's spare places count too). A statement '..UptoSaid' is the law's where the arguments, and the package variables that the reading takes, are together of bulk at most 1048576: NARROWER than '..Said'. Prove '..Said' where nothing that the law and all that it calls make is longer than what came in: it says more and counts as full. Else prove '..UptoSaid'. A law counts once. -/
mutual
def uptoBulk {H : Type} : DataW H → Nat
  | .lit (.string bytes) => bytes.length + 1
  | .lit _ => 1
  | .nil => 1
  | .ptr d => uptoBulk d + 1
  | .slice elems spare => uptoBulkAll elems + uptoBulkAll spare + 1
  | .agg parts => uptoBulkAll parts + 1
  | .iface _ d => uptoBulk d + 1
  | .map entries => uptoBulkEntries entries + 1
  | .held _ => 1
def uptoBulkAll {H : Type} : List (DataW H) → Nat
  | [] => 0
  | d :: r => uptoBulk d + uptoBulkAll r
def uptoBulkEntries {H : Type} : List (Lit × DataW H) → Nat
  | [] => 0
  | x :: r => uptoBulkEntry x + uptoBulkEntries r
def uptoBulkEntry {H : Type} : Lit × DataW H → Nat
  | (.string bytes, d) => bytes.length + uptoBulk d + 1
  | (_, d) => uptoBulk d + 1
 end
def uptoSmall : (H : Type) → List (DataW H) → Bool := fun _ ds => decide (uptoBulkAll ds ≤ 1048576)
def OpenSpec.upto (s : _root_.Go.ChangeSpec) : _root_.Go.OpenSpec := { _root_.Go.OpenSpec.ofChange s with cond := some uptoSmall }

/-- 'laws.FnRangeEqual', WHERE WHAT IT READS IS OF BULK AT MOST 1048576: true; the input reads as it did. -/
def fnRangeEqualUptoRow : OpenClaim := { program := "ytkmdkmlgahfcpaa", sum := "281f7abfc59e089a09a332d40b6a9ee8d9833be736f13ced2ab50105202c0fc8", func := "pub-sarsen/laws.FnRangeEqual", spec := "fnRangeEqual", apart := false, narrowed := true }
def FnRangeEqualUptoSaid : Prop := fnRangeEqualUptoRow.holds Try.pinned (OpenSpec.upto fnRangeEqualSpec)

/-- 'laws.FnRootByChains', WHERE WHAT IT READS IS OF BULK AT MOST 1048576: true; the input reads as it did. -/
def fnRootByChainsUptoRow : OpenClaim := { program := "ytkmdkmlgahfcpaa", sum := "281f7abfc59e089a09a332d40b6a9ee8d9833be736f13ced2ab50105202c0fc8", func := "pub-sarsen/laws.FnRootByChains", spec := "fnRootByChains", unfollowed := true, recurses := true, apart := false, narrowed := true }
def FnRootByChainsUptoSaid : Prop := fnRootByChainsUptoRow.holds Try.pinned (OpenSpec.upto fnRootByChainsSpec)

/-- 'laws.FnVerifyInclusion', WHERE WHAT IT READS IS OF BULK AT MOST 1048576: true; the input reads as it did. -/
def fnVerifyInclusionUptoRow : OpenClaim := { program := "ytkmdkmlgahfcpaa", sum := "281f7abfc59e089a09a332d40b6a9ee8d9833be736f13ced2ab50105202c0fc8", func := "pub-sarsen/laws.FnVerifyInclusion", spec := "fnVerifyInclusion", unfollowed := true, recurses := true, apart := false, narrowed := true }
def FnVerifyInclusionUptoSaid : Prop := fnVerifyInclusionUptoRow.holds Try.pinned (OpenSpec.upto fnVerifyInclusionSpec)

end Rows
end Go.Proofs.Ytkmdkmlgahfcpaa
