/-
  NARROWER THAN 'FOR EVERY INPUT', by the rows' own cells (each row's printed sentence says how): FnCache: laid.
  DERIVED. THE GIVEN ROWS OF THIS SEAT. 1 by the template 'for every input the law returns true; each argument reads behind the call as it read before'; 0 by the template 'total and deterministic' (their statements: YtlfmplhleglibaaDoorTotals.lean).
  GIVEN WITH THE SEED: the statements are not yours to turn. If you find one false, say at which input.
  Laid BY PROGRAM, IN A SANDBOX (cutbox-rows.mjs): the forced cells as the released guide's own fill.sh prints them over the translation 5fefb0f8257b7b8d… (all of the seat's roots in one cut). By AI agents, Wed Nov 11 2026. No macro, syntax, notation, axiom, sorry.
-/
import Derived.Test.YtlfmplhleglibaaDoorChecked
import GoSem.Claim
import GoSem.ClaimJoined
import GoSem.ClaimMapViews
import Derived.JoinedTies
import Derived.KernelRfl
namespace Go.Proofs.YtlfmplhleglibaaDoor
/- THE CELL 'sum', in the pinned program and in every row, IS THE sha256 OF THE DUMP (.gsa) THAT YtlfmplhleglibaaDoorProg.lean LOADS. Nothing in Lean hashes anything: it is a label: what it is worth is what the hold of that sum in a sandbox is worth. -/
noncomputable def Tryd.pinned : Pinned := { name := "ytlfmplhleglibaadoor", sum := "5fefb0f8257b7b8ddadbf776fd7f6c5221a8f83bafc2333d71a36f0055c51c69", checked := Tryd.checked }
namespace Rows
def none {H : Type} : Left H := { results := [], args := [] }

/- WHAT THE LISTED PACKAGE-LEVEL VARIABLES READ AS WHEN THE CALL BEGINS. Each datum BY PROGRAM (the guide's laid-datum.mjs) off the statement by which the dump's own 'gosem.cut.vars' lays the variable. In a bare row this is a premise. The card (YtlfmplhleglibaaDoorCards.lean) ties it to the program's text. -/
def laid_pub_sarsen_pub_reedsolomon_errAlreadySet {H : Type} : DataW H := .iface "*errors.errorString" (.ptr (.agg [.lit (.string [116, 104, 101, 32, 114, 111, 111, 116, 32, 110, 111, 100, 101, 32, 105, 100, 101, 110, 116, 105, 116, 121, 32, 109, 97, 116, 114, 105, 120, 32, 105, 115, 32, 97, 108, 114, 101, 97, 100, 121, 32, 115, 101, 116])]))
def laid_pub_sarsen_pub_reedsolomon_errInvalidRowSize {H : Type} : DataW H := .iface "*errors.errorString" (.ptr (.agg [.lit (.string [105, 110, 118, 97, 108, 105, 100, 32, 114, 111, 119, 32, 115, 105, 122, 101])]))
def laid_pub_sarsen_pub_reedsolomon_errInvalidColSize {H : Type} : DataW H := .iface "*errors.errorString" (.ptr (.agg [.lit (.string [105, 110, 118, 97, 108, 105, 100, 32, 99, 111, 108, 117, 109, 110, 32, 115, 105, 122, 101])]))
def laid_pub_sarsen_pub_reedsolomon_errColSizeMismatch {H : Type} : DataW H := .iface "*errors.errorString" (.ptr (.agg [.lit (.string [99, 111, 108, 117, 109, 110, 32, 115, 105, 122, 101, 32, 105, 115, 32, 110, 111, 116, 32, 116, 104, 101, 32, 115, 97, 109, 101, 32, 102, 111, 114, 32, 97, 108, 108, 32, 114, 111, 119, 115])]))
def laid_pub_sarsen_pub_reedsolomon_errNotSquare {H : Type} : DataW H := .iface "*errors.errorString" (.ptr (.agg [.lit (.string [111, 110, 108, 121, 32, 115, 113, 117, 97, 114, 101, 32, 109, 97, 116, 114, 105, 99, 101, 115, 32, 99, 97, 110, 32, 98, 101, 32, 105, 110, 118, 101, 114, 116, 101, 100])]))

/-- 'laws.FnCache': WHATEVER THE INPUT: true; the input reads as it did. -/
def fnCacheSpec : ChangeSpec := { name := "fnCache", fn := fun _ => fun
  | [d1, d2, d3] => { results := [.lit (.bool true)], args := [d1, d2, d3] }
  | _ => none }
def fnCacheRow : OpenClaim := { program := "ytlfmplhleglibaadoor", sum := "5fefb0f8257b7b8ddadbf776fd7f6c5221a8f83bafc2333d71a36f0055c51c69", func := "pub-sarsen/laws.FnCache", spec := "fnCache", recurses := true, named := ["pub-sarsen/pub/reedsolomon.errInvalidRowSize", "pub-sarsen/pub/reedsolomon.errInvalidColSize", "pub-sarsen/pub/reedsolomon.errColSizeMismatch", "pub-sarsen/pub/reedsolomon.errAlreadySet", "pub-sarsen/pub/reedsolomon.errNotSquare"], apart := false, laid := [("pub-sarsen/pub/reedsolomon.errAlreadySet", laid_pub_sarsen_pub_reedsolomon_errAlreadySet), ("pub-sarsen/pub/reedsolomon.errInvalidRowSize", laid_pub_sarsen_pub_reedsolomon_errInvalidRowSize), ("pub-sarsen/pub/reedsolomon.errInvalidColSize", laid_pub_sarsen_pub_reedsolomon_errInvalidColSize), ("pub-sarsen/pub/reedsolomon.errColSizeMismatch", laid_pub_sarsen_pub_reedsolomon_errColSizeMismatch), ("pub-sarsen/pub/reedsolomon.errNotSquare", laid_pub_sarsen_pub_reedsolomon_errNotSquare)] }
def FnCacheSaid : Prop := fnCacheRow.holds Tryd.pinned (OpenSpec.ofChange fnCacheSpec)

/-- ITS FALSE NEIGHBOUR: 'it returns false'. Refute it at one input. -/
def fnCacheWrong : ChangeSpec := { name := "fnCache", fn := fun _ => fun
  | [d1, d2, d3] => { results := [.lit (.bool false)], args := [d1, d2, d3] }
  | _ => none }
def FnCacheWrongFalsely : Prop := fnCacheRow.holds Tryd.pinned (OpenSpec.ofChange fnCacheWrong)

/- THE SECOND FORM. 'bulk': how many values and letters a reading holds, each counted each time it is reached (what is shared counts as often as it is met; a slice's spare places count too). A statement '..UptoSaid' is the law's where the arguments, and the package variables that the reading takes, are together of bulk at most 1048576: NARROWER than '..Said'. Prove '..Said' where nothing that the law and all that it calls make is longer than what came in: it says more and counts as full. Else prove '..UptoSaid'. A law counts once. -/
mutual
def uptoBulk {H : Type} : DataW H → Nat
  | .lit (.string bytes) => bytes.length + 1
  | .lit _ => 1
  | .nil => 1
  | .ptr d => uptoBulk d + 1
  | .slice elems spare => uptoBulkAll elems + uptoBulkAll spare + 1
  | .agg parts => uptoBulkAll parts + 1
  | .iface _ d => uptoBulk d + 1
  | .map entries => uptoBulkEntries entries + 1
  | .held _ => 1
def uptoBulkAll {H : Type} : List (DataW H) → Nat
  | [] => 0
  | d :: r => uptoBulk d + uptoBulkAll r
def uptoBulkEntries {H : Type} : List (Lit × DataW H) → Nat
  | [] => 0
  | x :: r => uptoBulkEntry x + uptoBulkEntries r
def uptoBulkEntry {H : Type} : Lit × DataW H → Nat
  | (.string bytes, d) => bytes.length + uptoBulk d + 1
  | (_, d) => uptoBulk d + 1
 end
def uptoSmall : (H : Type) → List (DataW H) → Bool := fun _ ds => decide (uptoBulkAll ds ≤ 1048576)
def OpenSpec.upto (s : _root_.Go.ChangeSpec) : _root_.Go.OpenSpec := { _root_.Go.OpenSpec.ofChange s with cond := some uptoSmall }

/-- 'laws.FnCache', WHERE WHAT IT READS IS OF BULK AT MOST 1048576: true; the input reads as it did. -/
def fnCacheUptoRow : OpenClaim := { program := "ytlfmplhleglibaadoor", sum := "5fefb0f8257b7b8ddadbf776fd7f6c5221a8f83bafc2333d71a36f0055c51c69", func := "pub-sarsen/laws.FnCache", spec := "fnCache", recurses := true, named := ["pub-sarsen/pub/reedsolomon.errInvalidRowSize", "pub-sarsen/pub/reedsolomon.errInvalidColSize", "pub-sarsen/pub/reedsolomon.errColSizeMismatch", "pub-sarsen/pub/reedsolomon.errAlreadySet", "pub-sarsen/pub/reedsolomon.errNotSquare"], apart := false, laid := [("pub-sarsen/pub/reedsolomon.errAlreadySet", laid_pub_sarsen_pub_reedsolomon_errAlreadySet), ("pub-sarsen/pub/reedsolomon.errInvalidRowSize", laid_pub_sarsen_pub_reedsolomon_errInvalidRowSize), ("pub-sarsen/pub/reedsolomon.errInvalidColSize", laid_pub_sarsen_pub_reedsolomon_errInvalidColSize), ("pub-sarsen/pub/reedsolomon.errColSizeMismatch", laid_pub_sarsen_pub_reedsolomon_errColSizeMismatch), ("pub-sarsen/pub/reedsolomon.errNotSquare", laid_pub_sarsen_pub_reedsolomon_errNotSquare)], narrowed := true }
def FnCacheUptoSaid : Prop := fnCacheUptoRow.holds Tryd.pinned (OpenSpec.upto fnCacheSpec)

end Rows
end Go.Proofs.YtlfmplhleglibaaDoor
