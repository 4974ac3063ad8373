/-
  DERIVED. GIVEN WITH THE SEED: THE CARDS: each row of YtkkkaegocinkeaaDoorRows.lean that lists a variable, with what it lists TIED to the program's text (the seventh form; the later family's looks); each row that meets fmt, with fmt's text TOLD by the authors' own Lean function (tested against real Go, not proved from fmt's source: count such statements apart). THE CARD IS WHAT COUNTS. Prove the row's statement (the work); the ties are given (YtkkkaegocinkeaaDoorTie.lean); close each card by the builder's one call (the guide's Derived/Test/ToyasCard.lean, 'card_holds'). Laid BY PROGRAM, IN A SANDBOX (cutbox-door.mjs). By AI agents, Wed Nov 11 2026. No macro, syntax, notation, axiom, sorry.
-/
import Derived.Test.YtkkkaegocinkeaaDoorRows
import GoSem.ClaimSeven
namespace Go.Proofs.YtkkkaegocinkeaaDoor
namespace Rows

/-- THE TIED CARD OF 'laws.FnRangeNodesMoved'. -/
def fnRangeNodesMovedCard : Claim7 := { stood := { row := fnRangeNodesMovedRow, standIns := [], harness := (true, "0941f36bdc54624b76b1203bdbaa0be880a334275188499b033b729943d1ea1a"), looks := false }, kinds := [], alts := [], laidByText := true, laidKinds := [.data], laidTests := true, laidLooks := .later }
def FnRangeNodesMovedCardSaid : Prop := Claim7.holds Tryd.pinned (.plain (OpenSpec.ofChange fnRangeNodesMovedSpec)) fnRangeNodesMovedCard

/-- THE TIED CARD OF 'laws.FnRangeNodesCover'. -/
def fnRangeNodesCoverCard : Claim7 := { stood := { row := fnRangeNodesCoverRow, standIns := [], harness := (true, "0941f36bdc54624b76b1203bdbaa0be880a334275188499b033b729943d1ea1a"), looks := false }, kinds := [], alts := [], laidByText := true, laidKinds := [.data], laidTests := true, laidLooks := .later }
def FnRangeNodesCoverCardSaid : Prop := Claim7.holds Tryd.pinned (.plain (OpenSpec.ofChange fnRangeNodesCoverSpec)) fnRangeNodesCoverCard

/-- THE TIED CARD OF 'laws.FnProofNodes'. -/
def fnProofNodesCard : Claim7 := { stood := { row := fnProofNodesRow, standIns := [], harness := (true, "0941f36bdc54624b76b1203bdbaa0be880a334275188499b033b729943d1ea1a"), looks := false }, kinds := [], alts := [], laidByText := true, laidKinds := [.data], laidTests := true, laidLooks := .later }
def FnProofNodesCardSaid : Prop := Claim7.holds Tryd.pinned (.plain (OpenSpec.ofChange fnProofNodesSpec)) fnProofNodesCard

/-- THE TIED CARD OF 'laws.FnConsistencyIsTwoRanges'. -/
def fnConsistencyIsTwoRangesCard : Claim7 := { stood := { row := fnConsistencyIsTwoRangesRow, standIns := [], harness := (true, "0941f36bdc54624b76b1203bdbaa0be880a334275188499b033b729943d1ea1a"), looks := false }, kinds := [], alts := [], laidByText := true, laidKinds := [.data], laidTests := true, laidLooks := .later }
def FnConsistencyIsTwoRangesCardSaid : Prop := Claim7.holds Tryd.pinned (.plain (OpenSpec.ofChange fnConsistencyIsTwoRangesSpec)) fnConsistencyIsTwoRangesCard

/-- THE SECOND FORM's CARD OF 'laws.FnRangeNodesMoved'. -/
def fnRangeNodesMovedUptoCard : Claim7 := { stood := { row := fnRangeNodesMovedUptoRow, standIns := [], harness := (true, "0941f36bdc54624b76b1203bdbaa0be880a334275188499b033b729943d1ea1a"), looks := false }, kinds := [], alts := [], laidByText := true, laidKinds := [.data], laidTests := true, laidLooks := .later }
def FnRangeNodesMovedUptoCardSaid : Prop := Claim7.holds Tryd.pinned (.plain (OpenSpec.upto fnRangeNodesMovedSpec)) fnRangeNodesMovedUptoCard

/-- THE SECOND FORM's CARD OF 'laws.FnRangeNodesCover'. -/
def fnRangeNodesCoverUptoCard : Claim7 := { stood := { row := fnRangeNodesCoverUptoRow, standIns := [], harness := (true, "0941f36bdc54624b76b1203bdbaa0be880a334275188499b033b729943d1ea1a"), looks := false }, kinds := [], alts := [], laidByText := true, laidKinds := [.data], laidTests := true, laidLooks := .later }
def FnRangeNodesCoverUptoCardSaid : Prop := Claim7.holds Tryd.pinned (.plain (OpenSpec.upto fnRangeNodesCoverSpec)) fnRangeNodesCoverUptoCard

/-- THE SECOND FORM's CARD OF 'laws.FnProofNodes'. -/
def fnProofNodesUptoCard : Claim7 := { stood := { row := fnProofNodesUptoRow, standIns := [], harness := (true, "0941f36bdc54624b76b1203bdbaa0be880a334275188499b033b729943d1ea1a"), looks := false }, kinds := [], alts := [], laidByText := true, laidKinds := [.data], laidTests := true, laidLooks := .later }
def FnProofNodesUptoCardSaid : Prop := Claim7.holds Tryd.pinned (.plain (OpenSpec.upto fnProofNodesSpec)) fnProofNodesUptoCard

/-- THE SECOND FORM's CARD OF 'laws.FnConsistencyIsTwoRanges'. -/
def fnConsistencyIsTwoRangesUptoCard : Claim7 := { stood := { row := fnConsistencyIsTwoRangesUptoRow, standIns := [], harness := (true, "0941f36bdc54624b76b1203bdbaa0be880a334275188499b033b729943d1ea1a"), looks := false }, kinds := [], alts := [], laidByText := true, laidKinds := [.data], laidTests := true, laidLooks := .later }
def FnConsistencyIsTwoRangesUptoCardSaid : Prop := Claim7.holds Tryd.pinned (.plain (OpenSpec.upto fnConsistencyIsTwoRangesSpec)) fnConsistencyIsTwoRangesUptoCard
end Rows
end Go.Proofs.YtkkkaegocinkeaaDoor
