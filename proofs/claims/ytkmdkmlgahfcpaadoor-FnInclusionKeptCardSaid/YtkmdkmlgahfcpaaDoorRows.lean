/-
  NARROWER THAN 'FOR EVERY INPUT', by the rows' own cells (each row's printed sentence says how): FnTreeOfTrees: laid · FnTreesTell: laid · FnConsistencyBinds: laid · FnRangeAppend: laid · FnRangeMergeLeaves: laid · FnInclusionSound: laid · FnConsistencyMade: laid · FnTreeInclusion: laid · FnInclusionKept: laid.
  DERIVED. THE GIVEN ROWS OF THIS SEAT. 9 by the template 'for every input the law returns true; each argument reads behind the call as it read before'; 0 by the template 'total and deterministic' (their statements: YtkmdkmlgahfcpaaDoorTotals.lean).
  GIVEN WITH THE SEED: the statements are not yours to turn. If you find one false, say at which input.
  Laid BY PROGRAM, IN A SANDBOX (cutbox-rows.mjs): the forced cells as the released guide's own fill.sh prints them over the translation 7c9ed0525b4685e9… (all of the seat's roots in one cut). By AI agents, Wed Nov 11 2026. No macro, syntax, notation, axiom, sorry.
-/
import Derived.Test.YtkmdkmlgahfcpaaDoorChecked
import GoSem.Claim
import GoSem.ClaimJoined
import GoSem.ClaimMapViews
import Derived.JoinedTies
import Derived.KernelRfl
namespace Go.Proofs.YtkmdkmlgahfcpaaDoor
/- THE CELL 'sum', in the pinned program and in every row, IS THE sha256 OF THE DUMP (.gsa) THAT YtkmdkmlgahfcpaaDoorProg.lean LOADS. Nothing in Lean hashes anything: it is a label: what it is worth is what the hold of that sum in a sandbox is worth. -/
noncomputable def Tryd.pinned : Pinned := { name := "ytkmdkmlgahfcpaadoor", sum := "7c9ed0525b4685e98f6e4bf7e9ff5c24cf51c6eb7568954cc3f3fe5e51d23b95", checked := Tryd.checked }
namespace Rows
def none {H : Type} : Left H := { results := [], args := [] }

/- WHAT THE LISTED PACKAGE-LEVEL VARIABLES READ AS WHEN THE CALL BEGINS. Each datum BY PROGRAM (the guide's laid-datum.mjs) off the statement by which the dump's own 'gosem.cut.vars' lays the variable. In a bare row this is a premise. The card (YtkmdkmlgahfcpaaDoorCards.lean) ties it to the program's text. -/
def laid_math_bits_deBruijn64tab {H : Type} : DataW H := .agg [.lit (.int .u8 0), .lit (.int .u8 1), .lit (.int .u8 56), .lit (.int .u8 2), .lit (.int .u8 57), .lit (.int .u8 49), .lit (.int .u8 28), .lit (.int .u8 3), .lit (.int .u8 61), .lit (.int .u8 58), .lit (.int .u8 42), .lit (.int .u8 50), .lit (.int .u8 38), .lit (.int .u8 29), .lit (.int .u8 17), .lit (.int .u8 4), .lit (.int .u8 62), .lit (.int .u8 47), .lit (.int .u8 59), .lit (.int .u8 36), .lit (.int .u8 45), .lit (.int .u8 43), .lit (.int .u8 51), .lit (.int .u8 22), .lit (.int .u8 53), .lit (.int .u8 39), .lit (.int .u8 33), .lit (.int .u8 30), .lit (.int .u8 24), .lit (.int .u8 18), .lit (.int .u8 12), .lit (.int .u8 5), .lit (.int .u8 63), .lit (.int .u8 55), .lit (.int .u8 48), .lit (.int .u8 27), .lit (.int .u8 60), .lit (.int .u8 41), .lit (.int .u8 37), .lit (.int .u8 16), .lit (.int .u8 46), .lit (.int .u8 35), .lit (.int .u8 44), .lit (.int .u8 21), .lit (.int .u8 52), .lit (.int .u8 32), .lit (.int .u8 23), .lit (.int .u8 11), .lit (.int .u8 54), .lit (.int .u8 26), .lit (.int .u8 40), .lit (.int .u8 15), .lit (.int .u8 34), .lit (.int .u8 20), .lit (.int .u8 31), .lit (.int .u8 10), .lit (.int .u8 25), .lit (.int .u8 14), .lit (.int .u8 19), .lit (.int .u8 9), .lit (.int .u8 13), .lit (.int .u8 8), .lit (.int .u8 7), .lit (.int .u8 6)]

/-- 'laws.FnTreeOfTrees': WHATEVER THE INPUT: true; the input reads as it did. -/
def fnTreeOfTreesSpec : ChangeSpec := { name := "fnTreeOfTrees", fn := fun _ => fun
  | [d1, d2, d3] => { results := [.lit (.bool true)], args := [d1, d2, d3] }
  | _ => none }
def fnTreeOfTreesRow : OpenClaim := { program := "ytkmdkmlgahfcpaadoor", sum := "7c9ed0525b4685e98f6e4bf7e9ff5c24cf51c6eb7568954cc3f3fe5e51d23b95", func := "pub-sarsen/laws.FnTreeOfTrees", spec := "fnTreeOfTrees", unfollowed := true, recurses := true, named := ["math/bits.deBruijn64tab"], apart := false, laid := [("math/bits.deBruijn64tab", laid_math_bits_deBruijn64tab)] }
def FnTreeOfTreesSaid : Prop := fnTreeOfTreesRow.holds Tryd.pinned (OpenSpec.ofChange fnTreeOfTreesSpec)

/-- ITS FALSE NEIGHBOUR: 'it returns false'. Refute it at one input. -/
def fnTreeOfTreesWrong : ChangeSpec := { name := "fnTreeOfTrees", fn := fun _ => fun
  | [d1, d2, d3] => { results := [.lit (.bool false)], args := [d1, d2, d3] }
  | _ => none }
def FnTreeOfTreesWrongFalsely : Prop := fnTreeOfTreesRow.holds Tryd.pinned (OpenSpec.ofChange fnTreeOfTreesWrong)

/-- 'laws.FnTreesTell': WHATEVER THE INPUT: true; the input reads as it did. -/
def fnTreesTellSpec : ChangeSpec := { name := "fnTreesTell", fn := fun _ => fun
  | [d1, d2, d3] => { results := [.lit (.bool true)], args := [d1, d2, d3] }
  | _ => none }
def fnTreesTellRow : OpenClaim := { program := "ytkmdkmlgahfcpaadoor", sum := "7c9ed0525b4685e98f6e4bf7e9ff5c24cf51c6eb7568954cc3f3fe5e51d23b95", func := "pub-sarsen/laws.FnTreesTell", spec := "fnTreesTell", unfollowed := true, recurses := true, named := ["math/bits.deBruijn64tab"], apart := false, laid := [("math/bits.deBruijn64tab", laid_math_bits_deBruijn64tab)] }
def FnTreesTellSaid : Prop := fnTreesTellRow.holds Tryd.pinned (OpenSpec.ofChange fnTreesTellSpec)

/-- ITS FALSE NEIGHBOUR: 'it returns false'. Refute it at one input. -/
def fnTreesTellWrong : ChangeSpec := { name := "fnTreesTell", fn := fun _ => fun
  | [d1, d2, d3] => { results := [.lit (.bool false)], args := [d1, d2, d3] }
  | _ => none }
def FnTreesTellWrongFalsely : Prop := fnTreesTellRow.holds Tryd.pinned (OpenSpec.ofChange fnTreesTellWrong)

/-- 'laws.FnConsistencyBinds': WHATEVER THE INPUT: true; the input reads as it did. -/
def fnConsistencyBindsSpec : ChangeSpec := { name := "fnConsistencyBinds", fn := fun _ => fun
  | [d1, d2, d3, d4, d5, d6, d7, d8] => { results := [.lit (.bool true)], args := [d1, d2, d3, d4, d5, d6, d7, d8] }
  | _ => none }
def fnConsistencyBindsRow : OpenClaim := { program := "ytkmdkmlgahfcpaadoor", sum := "7c9ed0525b4685e98f6e4bf7e9ff5c24cf51c6eb7568954cc3f3fe5e51d23b95", func := "pub-sarsen/laws.FnConsistencyBinds", spec := "fnConsistencyBinds", unfollowed := true, recurses := true, named := ["math/bits.deBruijn64tab"], apart := false, laid := [("math/bits.deBruijn64tab", laid_math_bits_deBruijn64tab)] }
def FnConsistencyBindsSaid : Prop := fnConsistencyBindsRow.holds Tryd.pinned (OpenSpec.ofChange fnConsistencyBindsSpec)

/-- ITS FALSE NEIGHBOUR: 'it returns false'. Refute it at one input. -/
def fnConsistencyBindsWrong : ChangeSpec := { name := "fnConsistencyBinds", fn := fun _ => fun
  | [d1, d2, d3, d4, d5, d6, d7, d8] => { results := [.lit (.bool false)], args := [d1, d2, d3, d4, d5, d6, d7, d8] }
  | _ => none }
def FnConsistencyBindsWrongFalsely : Prop := fnConsistencyBindsRow.holds Tryd.pinned (OpenSpec.ofChange fnConsistencyBindsWrong)

/-- 'laws.FnRangeAppend': WHATEVER THE INPUT: true; the input reads as it did. -/
def fnRangeAppendSpec : ChangeSpec := { name := "fnRangeAppend", fn := fun _ => fun
  | [d1, d2, d3] => { results := [.lit (.bool true)], args := [d1, d2, d3] }
  | _ => none }
def fnRangeAppendRow : OpenClaim := { program := "ytkmdkmlgahfcpaadoor", sum := "7c9ed0525b4685e98f6e4bf7e9ff5c24cf51c6eb7568954cc3f3fe5e51d23b95", func := "pub-sarsen/laws.FnRangeAppend", spec := "fnRangeAppend", unfollowed := true, recurses := true, named := ["math/bits.deBruijn64tab"], apart := false, laid := [("math/bits.deBruijn64tab", laid_math_bits_deBruijn64tab)] }
def FnRangeAppendSaid : Prop := fnRangeAppendRow.holds Tryd.pinned (OpenSpec.ofChange fnRangeAppendSpec)

/-- ITS FALSE NEIGHBOUR: 'it returns false'. Refute it at one input. -/
def fnRangeAppendWrong : ChangeSpec := { name := "fnRangeAppend", fn := fun _ => fun
  | [d1, d2, d3] => { results := [.lit (.bool false)], args := [d1, d2, d3] }
  | _ => none }
def FnRangeAppendWrongFalsely : Prop := fnRangeAppendRow.holds Tryd.pinned (OpenSpec.ofChange fnRangeAppendWrong)

/-- 'laws.FnRangeMergeLeaves': WHATEVER THE INPUT: true; the input reads as it did. -/
def fnRangeMergeLeavesSpec : ChangeSpec := { name := "fnRangeMergeLeaves", fn := fun _ => fun
  | [d1, d2, d3, d4] => { results := [.lit (.bool true)], args := [d1, d2, d3, d4] }
  | _ => none }
def fnRangeMergeLeavesRow : OpenClaim := { program := "ytkmdkmlgahfcpaadoor", sum := "7c9ed0525b4685e98f6e4bf7e9ff5c24cf51c6eb7568954cc3f3fe5e51d23b95", func := "pub-sarsen/laws.FnRangeMergeLeaves", spec := "fnRangeMergeLeaves", unfollowed := true, recurses := true, named := ["math/bits.deBruijn64tab"], apart := false, laid := [("math/bits.deBruijn64tab", laid_math_bits_deBruijn64tab)] }
def FnRangeMergeLeavesSaid : Prop := fnRangeMergeLeavesRow.holds Tryd.pinned (OpenSpec.ofChange fnRangeMergeLeavesSpec)

/-- ITS FALSE NEIGHBOUR: 'it returns false'. Refute it at one input. -/
def fnRangeMergeLeavesWrong : ChangeSpec := { name := "fnRangeMergeLeaves", fn := fun _ => fun
  | [d1, d2, d3, d4] => { results := [.lit (.bool false)], args := [d1, d2, d3, d4] }
  | _ => none }
def FnRangeMergeLeavesWrongFalsely : Prop := fnRangeMergeLeavesRow.holds Tryd.pinned (OpenSpec.ofChange fnRangeMergeLeavesWrong)

/-- 'laws.FnInclusionSound': WHATEVER THE INPUT: true; the input reads as it did. -/
def fnInclusionSoundSpec : ChangeSpec := { name := "fnInclusionSound", fn := fun _ => fun
  | [d1, d2, d3, d4, d5] => { results := [.lit (.bool true)], args := [d1, d2, d3, d4, d5] }
  | _ => none }
def fnInclusionSoundRow : OpenClaim := { program := "ytkmdkmlgahfcpaadoor", sum := "7c9ed0525b4685e98f6e4bf7e9ff5c24cf51c6eb7568954cc3f3fe5e51d23b95", func := "pub-sarsen/laws.FnInclusionSound", spec := "fnInclusionSound", unfollowed := true, recurses := true, named := ["math/bits.deBruijn64tab"], apart := false, laid := [("math/bits.deBruijn64tab", laid_math_bits_deBruijn64tab)] }
def FnInclusionSoundSaid : Prop := fnInclusionSoundRow.holds Tryd.pinned (OpenSpec.ofChange fnInclusionSoundSpec)

/-- ITS FALSE NEIGHBOUR: 'it returns false'. Refute it at one input. -/
def fnInclusionSoundWrong : ChangeSpec := { name := "fnInclusionSound", fn := fun _ => fun
  | [d1, d2, d3, d4, d5] => { results := [.lit (.bool false)], args := [d1, d2, d3, d4, d5] }
  | _ => none }
def FnInclusionSoundWrongFalsely : Prop := fnInclusionSoundRow.holds Tryd.pinned (OpenSpec.ofChange fnInclusionSoundWrong)

/-- 'laws.FnConsistencyMade': WHATEVER THE INPUT: true; the input reads as it did. -/
def fnConsistencyMadeSpec : ChangeSpec := { name := "fnConsistencyMade", fn := fun _ => fun
  | [d1, d2, d3] => { results := [.lit (.bool true)], args := [d1, d2, d3] }
  | _ => none }
def fnConsistencyMadeRow : OpenClaim := { program := "ytkmdkmlgahfcpaadoor", sum := "7c9ed0525b4685e98f6e4bf7e9ff5c24cf51c6eb7568954cc3f3fe5e51d23b95", func := "pub-sarsen/laws.FnConsistencyMade", spec := "fnConsistencyMade", unfollowed := true, recurses := true, named := ["math/bits.deBruijn64tab"], apart := false, laid := [("math/bits.deBruijn64tab", laid_math_bits_deBruijn64tab)] }
def FnConsistencyMadeSaid : Prop := fnConsistencyMadeRow.holds Tryd.pinned (OpenSpec.ofChange fnConsistencyMadeSpec)

/-- ITS FALSE NEIGHBOUR: 'it returns false'. Refute it at one input. -/
def fnConsistencyMadeWrong : ChangeSpec := { name := "fnConsistencyMade", fn := fun _ => fun
  | [d1, d2, d3] => { results := [.lit (.bool false)], args := [d1, d2, d3] }
  | _ => none }
def FnConsistencyMadeWrongFalsely : Prop := fnConsistencyMadeRow.holds Tryd.pinned (OpenSpec.ofChange fnConsistencyMadeWrong)

/-- 'laws.FnTreeInclusion': WHATEVER THE INPUT: true; the input reads as it did. -/
def fnTreeInclusionSpec : ChangeSpec := { name := "fnTreeInclusion", fn := fun _ => fun
  | [d1, d2, d3, d4] => { results := [.lit (.bool true)], args := [d1, d2, d3, d4] }
  | _ => none }
def fnTreeInclusionRow : OpenClaim := { program := "ytkmdkmlgahfcpaadoor", sum := "7c9ed0525b4685e98f6e4bf7e9ff5c24cf51c6eb7568954cc3f3fe5e51d23b95", func := "pub-sarsen/laws.FnTreeInclusion", spec := "fnTreeInclusion", unfollowed := true, recurses := true, named := ["math/bits.deBruijn64tab"], apart := false, laid := [("math/bits.deBruijn64tab", laid_math_bits_deBruijn64tab)] }
def FnTreeInclusionSaid : Prop := fnTreeInclusionRow.holds Tryd.pinned (OpenSpec.ofChange fnTreeInclusionSpec)

/-- ITS FALSE NEIGHBOUR: 'it returns false'. Refute it at one input. -/
def fnTreeInclusionWrong : ChangeSpec := { name := "fnTreeInclusion", fn := fun _ => fun
  | [d1, d2, d3, d4] => { results := [.lit (.bool false)], args := [d1, d2, d3, d4] }
  | _ => none }
def FnTreeInclusionWrongFalsely : Prop := fnTreeInclusionRow.holds Tryd.pinned (OpenSpec.ofChange fnTreeInclusionWrong)

/-- 'laws.FnInclusionKept': WHATEVER THE INPUT: true; the input reads as it did. -/
def fnInclusionKeptSpec : ChangeSpec := { name := "fnInclusionKept", fn := fun _ => fun
  | [d1, d2, d3, d4, d5] => { results := [.lit (.bool true)], args := [d1, d2, d3, d4, d5] }
  | _ => none }
def fnInclusionKeptRow : OpenClaim := { program := "ytkmdkmlgahfcpaadoor", sum := "7c9ed0525b4685e98f6e4bf7e9ff5c24cf51c6eb7568954cc3f3fe5e51d23b95", func := "pub-sarsen/laws.FnInclusionKept", spec := "fnInclusionKept", unfollowed := true, recurses := true, named := ["math/bits.deBruijn64tab"], apart := false, laid := [("math/bits.deBruijn64tab", laid_math_bits_deBruijn64tab)] }
def FnInclusionKeptSaid : Prop := fnInclusionKeptRow.holds Tryd.pinned (OpenSpec.ofChange fnInclusionKeptSpec)

/-- ITS FALSE NEIGHBOUR: 'it returns false'. Refute it at one input. -/
def fnInclusionKeptWrong : ChangeSpec := { name := "fnInclusionKept", fn := fun _ => fun
  | [d1, d2, d3, d4, d5] => { results := [.lit (.bool false)], args := [d1, d2, d3, d4, d5] }
  | _ => none }
def FnInclusionKeptWrongFalsely : Prop := fnInclusionKeptRow.holds Tryd.pinned (OpenSpec.ofChange fnInclusionKeptWrong)

/- THE SECOND FORM. 'bulk': how many values and letters a reading holds, each counted each time it is reached (what is shared counts as often as it is met; a slice's spare places count too). A statement '..UptoSaid' is the law's where the arguments, and the package variables that the reading takes, are together of bulk at most 1048576: NARROWER than '..Said'. Prove '..Said' where nothing that the law and all that it calls make is longer than what came in: it says more and counts as full. Else prove '..UptoSaid'. A law counts once. -/
mutual
def uptoBulk {H : Type} : DataW H → Nat
  | .lit (.string bytes) => bytes.length + 1
  | .lit _ => 1
  | .nil => 1
  | .ptr d => uptoBulk d + 1
  | .slice elems spare => uptoBulkAll elems + uptoBulkAll spare + 1
  | .agg parts => uptoBulkAll parts + 1
  | .iface _ d => uptoBulk d + 1
  | .map entries => uptoBulkEntries entries + 1
  | .held _ => 1
def uptoBulkAll {H : Type} : List (DataW H) → Nat
  | [] => 0
  | d :: r => uptoBulk d + uptoBulkAll r
def uptoBulkEntries {H : Type} : List (Lit × DataW H) → Nat
  | [] => 0
  | x :: r => uptoBulkEntry x + uptoBulkEntries r
def uptoBulkEntry {H : Type} : Lit × DataW H → Nat
  | (.string bytes, d) => bytes.length + uptoBulk d + 1
  | (_, d) => uptoBulk d + 1
 end
def uptoSmall : (H : Type) → List (DataW H) → Bool := fun _ ds => decide (uptoBulkAll ds ≤ 1048576)
def OpenSpec.upto (s : _root_.Go.ChangeSpec) : _root_.Go.OpenSpec := { _root_.Go.OpenSpec.ofChange s with cond := some uptoSmall }

/-- 'laws.FnTreeOfTrees', WHERE WHAT IT READS IS OF BULK AT MOST 1048576: true; the input reads as it did. -/
def fnTreeOfTreesUptoRow : OpenClaim := { program := "ytkmdkmlgahfcpaadoor", sum := "7c9ed0525b4685e98f6e4bf7e9ff5c24cf51c6eb7568954cc3f3fe5e51d23b95", func := "pub-sarsen/laws.FnTreeOfTrees", spec := "fnTreeOfTrees", unfollowed := true, recurses := true, named := ["math/bits.deBruijn64tab"], apart := false, laid := [("math/bits.deBruijn64tab", laid_math_bits_deBruijn64tab)], narrowed := true }
def FnTreeOfTreesUptoSaid : Prop := fnTreeOfTreesUptoRow.holds Tryd.pinned (OpenSpec.upto fnTreeOfTreesSpec)

/-- 'laws.FnTreesTell', WHERE WHAT IT READS IS OF BULK AT MOST 1048576: true; the input reads as it did. -/
def fnTreesTellUptoRow : OpenClaim := { program := "ytkmdkmlgahfcpaadoor", sum := "7c9ed0525b4685e98f6e4bf7e9ff5c24cf51c6eb7568954cc3f3fe5e51d23b95", func := "pub-sarsen/laws.FnTreesTell", spec := "fnTreesTell", unfollowed := true, recurses := true, named := ["math/bits.deBruijn64tab"], apart := false, laid := [("math/bits.deBruijn64tab", laid_math_bits_deBruijn64tab)], narrowed := true }
def FnTreesTellUptoSaid : Prop := fnTreesTellUptoRow.holds Tryd.pinned (OpenSpec.upto fnTreesTellSpec)

/-- 'laws.FnConsistencyBinds', WHERE WHAT IT READS IS OF BULK AT MOST 1048576: true; the input reads as it did. -/
def fnConsistencyBindsUptoRow : OpenClaim := { program := "ytkmdkmlgahfcpaadoor", sum := "7c9ed0525b4685e98f6e4bf7e9ff5c24cf51c6eb7568954cc3f3fe5e51d23b95", func := "pub-sarsen/laws.FnConsistencyBinds", spec := "fnConsistencyBinds", unfollowed := true, recurses := true, named := ["math/bits.deBruijn64tab"], apart := false, laid := [("math/bits.deBruijn64tab", laid_math_bits_deBruijn64tab)], narrowed := true }
def FnConsistencyBindsUptoSaid : Prop := fnConsistencyBindsUptoRow.holds Tryd.pinned (OpenSpec.upto fnConsistencyBindsSpec)

/-- 'laws.FnRangeAppend', WHERE WHAT IT READS IS OF BULK AT MOST 1048576: true; the input reads as it did. -/
def fnRangeAppendUptoRow : OpenClaim := { program := "ytkmdkmlgahfcpaadoor", sum := "7c9ed0525b4685e98f6e4bf7e9ff5c24cf51c6eb7568954cc3f3fe5e51d23b95", func := "pub-sarsen/laws.FnRangeAppend", spec := "fnRangeAppend", unfollowed := true, recurses := true, named := ["math/bits.deBruijn64tab"], apart := false, laid := [("math/bits.deBruijn64tab", laid_math_bits_deBruijn64tab)], narrowed := true }
def FnRangeAppendUptoSaid : Prop := fnRangeAppendUptoRow.holds Tryd.pinned (OpenSpec.upto fnRangeAppendSpec)

/-- 'laws.FnRangeMergeLeaves', WHERE WHAT IT READS IS OF BULK AT MOST 1048576: true; the input reads as it did. -/
def fnRangeMergeLeavesUptoRow : OpenClaim := { program := "ytkmdkmlgahfcpaadoor", sum := "7c9ed0525b4685e98f6e4bf7e9ff5c24cf51c6eb7568954cc3f3fe5e51d23b95", func := "pub-sarsen/laws.FnRangeMergeLeaves", spec := "fnRangeMergeLeaves", unfollowed := true, recurses := true, named := ["math/bits.deBruijn64tab"], apart := false, laid := [("math/bits.deBruijn64tab", laid_math_bits_deBruijn64tab)], narrowed := true }
def FnRangeMergeLeavesUptoSaid : Prop := fnRangeMergeLeavesUptoRow.holds Tryd.pinned (OpenSpec.upto fnRangeMergeLeavesSpec)

/-- 'laws.FnInclusionSound', WHERE WHAT IT READS IS OF BULK AT MOST 1048576: true; the input reads as it did. -/
def fnInclusionSoundUptoRow : OpenClaim := { program := "ytkmdkmlgahfcpaadoor", sum := "7c9ed0525b4685e98f6e4bf7e9ff5c24cf51c6eb7568954cc3f3fe5e51d23b95", func := "pub-sarsen/laws.FnInclusionSound", spec := "fnInclusionSound", unfollowed := true, recurses := true, named := ["math/bits.deBruijn64tab"], apart := false, laid := [("math/bits.deBruijn64tab", laid_math_bits_deBruijn64tab)], narrowed := true }
def FnInclusionSoundUptoSaid : Prop := fnInclusionSoundUptoRow.holds Tryd.pinned (OpenSpec.upto fnInclusionSoundSpec)

/-- 'laws.FnConsistencyMade', WHERE WHAT IT READS IS OF BULK AT MOST 1048576: true; the input reads as it did. -/
def fnConsistencyMadeUptoRow : OpenClaim := { program := "ytkmdkmlgahfcpaadoor", sum := "7c9ed0525b4685e98f6e4bf7e9ff5c24cf51c6eb7568954cc3f3fe5e51d23b95", func := "pub-sarsen/laws.FnConsistencyMade", spec := "fnConsistencyMade", unfollowed := true, recurses := true, named := ["math/bits.deBruijn64tab"], apart := false, laid := [("math/bits.deBruijn64tab", laid_math_bits_deBruijn64tab)], narrowed := true }
def FnConsistencyMadeUptoSaid : Prop := fnConsistencyMadeUptoRow.holds Tryd.pinned (OpenSpec.upto fnConsistencyMadeSpec)

/-- 'laws.FnTreeInclusion', WHERE WHAT IT READS IS OF BULK AT MOST 1048576: true; the input reads as it did. -/
def fnTreeInclusionUptoRow : OpenClaim := { program := "ytkmdkmlgahfcpaadoor", sum := "7c9ed0525b4685e98f6e4bf7e9ff5c24cf51c6eb7568954cc3f3fe5e51d23b95", func := "pub-sarsen/laws.FnTreeInclusion", spec := "fnTreeInclusion", unfollowed := true, recurses := true, named := ["math/bits.deBruijn64tab"], apart := false, laid := [("math/bits.deBruijn64tab", laid_math_bits_deBruijn64tab)], narrowed := true }
def FnTreeInclusionUptoSaid : Prop := fnTreeInclusionUptoRow.holds Tryd.pinned (OpenSpec.upto fnTreeInclusionSpec)

/-- 'laws.FnInclusionKept', WHERE WHAT IT READS IS OF BULK AT MOST 1048576: true; the input reads as it did. -/
def fnInclusionKeptUptoRow : OpenClaim := { program := "ytkmdkmlgahfcpaadoor", sum := "7c9ed0525b4685e98f6e4bf7e9ff5c24cf51c6eb7568954cc3f3fe5e51d23b95", func := "pub-sarsen/laws.FnInclusionKept", spec := "fnInclusionKept", unfollowed := true, recurses := true, named := ["math/bits.deBruijn64tab"], apart := false, laid := [("math/bits.deBruijn64tab", laid_math_bits_deBruijn64tab)], narrowed := true }
def FnInclusionKeptUptoSaid : Prop := fnInclusionKeptUptoRow.holds Tryd.pinned (OpenSpec.upto fnInclusionKeptSpec)

end Rows
end Go.Proofs.YtkmdkmlgahfcpaaDoor
