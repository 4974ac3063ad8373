/-
  DERIVED. GIVEN WITH THE SEED: THE CARDS: each row of YtkmdkmlgahfcpaaDoorRows.lean that lists a variable, with what it lists TIED to the program's text (the seventh form; the later family's looks); each row that meets fmt, with fmt's text TOLD by the authors' own Lean function (tested against real Go, not proved from fmt's source: count such statements apart). THE CARD IS WHAT COUNTS. Prove the row's statement (the work); the ties are given (YtkmdkmlgahfcpaaDoorTie.lean); close each card by the builder's one call (the guide's Derived/Test/ToyasCard.lean, 'card_holds'). Laid BY PROGRAM, IN A SANDBOX (cutbox-door.mjs). By AI agents, Wed Nov 11 2026. No macro, syntax, notation, axiom, sorry.
-/
import Derived.Test.YtkmdkmlgahfcpaaDoorRows
import GoSem.ClaimSeven
namespace Go.Proofs.YtkmdkmlgahfcpaaDoor
namespace Rows

/-- THE TIED CARD OF 'laws.FnTreeOfTrees'. -/
def fnTreeOfTreesCard : Claim7 := { stood := { row := fnTreeOfTreesRow, standIns := [], harness := (true, "9941d0fa3cd8c936c5c0dcce15b34cdfacdc82e495e10f9c357b7c686b5e4718"), looks := true }, kinds := [], alts := [], laidByText := true, laidKinds := [.data], laidTests := true, laidLooks := .later }
def FnTreeOfTreesCardSaid : Prop := Claim7.holds Tryd.pinned (.plain (OpenSpec.ofChange fnTreeOfTreesSpec)) fnTreeOfTreesCard

/-- THE TIED CARD OF 'laws.FnTreesTell'. -/
def fnTreesTellCard : Claim7 := { stood := { row := fnTreesTellRow, standIns := [], harness := (true, "9941d0fa3cd8c936c5c0dcce15b34cdfacdc82e495e10f9c357b7c686b5e4718"), looks := true }, kinds := [], alts := [], laidByText := true, laidKinds := [.data], laidTests := true, laidLooks := .later }
def FnTreesTellCardSaid : Prop := Claim7.holds Tryd.pinned (.plain (OpenSpec.ofChange fnTreesTellSpec)) fnTreesTellCard

/-- THE TIED CARD OF 'laws.FnConsistencyBinds'. -/
def fnConsistencyBindsCard : Claim7 := { stood := { row := fnConsistencyBindsRow, standIns := [], harness := (true, "9941d0fa3cd8c936c5c0dcce15b34cdfacdc82e495e10f9c357b7c686b5e4718"), looks := true }, kinds := [], alts := [], laidByText := true, laidKinds := [.data], laidTests := true, laidLooks := .later }
def FnConsistencyBindsCardSaid : Prop := Claim7.holds Tryd.pinned (.plain (OpenSpec.ofChange fnConsistencyBindsSpec)) fnConsistencyBindsCard

/-- THE TIED CARD OF 'laws.FnRangeAppend'. -/
def fnRangeAppendCard : Claim7 := { stood := { row := fnRangeAppendRow, standIns := [], harness := (true, "9941d0fa3cd8c936c5c0dcce15b34cdfacdc82e495e10f9c357b7c686b5e4718"), looks := true }, kinds := [], alts := [], laidByText := true, laidKinds := [.data], laidTests := true, laidLooks := .later }
def FnRangeAppendCardSaid : Prop := Claim7.holds Tryd.pinned (.plain (OpenSpec.ofChange fnRangeAppendSpec)) fnRangeAppendCard

/-- THE TIED CARD OF 'laws.FnRangeMergeLeaves'. -/
def fnRangeMergeLeavesCard : Claim7 := { stood := { row := fnRangeMergeLeavesRow, standIns := [], harness := (true, "9941d0fa3cd8c936c5c0dcce15b34cdfacdc82e495e10f9c357b7c686b5e4718"), looks := true }, kinds := [], alts := [], laidByText := true, laidKinds := [.data], laidTests := true, laidLooks := .later }
def FnRangeMergeLeavesCardSaid : Prop := Claim7.holds Tryd.pinned (.plain (OpenSpec.ofChange fnRangeMergeLeavesSpec)) fnRangeMergeLeavesCard

/-- THE TIED CARD OF 'laws.FnInclusionSound'. -/
def fnInclusionSoundCard : Claim7 := { stood := { row := fnInclusionSoundRow, standIns := [], harness := (true, "9941d0fa3cd8c936c5c0dcce15b34cdfacdc82e495e10f9c357b7c686b5e4718"), looks := true }, kinds := [], alts := [], laidByText := true, laidKinds := [.data], laidTests := true, laidLooks := .later }
def FnInclusionSoundCardSaid : Prop := Claim7.holds Tryd.pinned (.plain (OpenSpec.ofChange fnInclusionSoundSpec)) fnInclusionSoundCard

/-- THE TIED CARD OF 'laws.FnConsistencyMade'. -/
def fnConsistencyMadeCard : Claim7 := { stood := { row := fnConsistencyMadeRow, standIns := [], harness := (true, "9941d0fa3cd8c936c5c0dcce15b34cdfacdc82e495e10f9c357b7c686b5e4718"), looks := true }, kinds := [], alts := [], laidByText := true, laidKinds := [.data], laidTests := true, laidLooks := .later }
def FnConsistencyMadeCardSaid : Prop := Claim7.holds Tryd.pinned (.plain (OpenSpec.ofChange fnConsistencyMadeSpec)) fnConsistencyMadeCard

/-- THE TIED CARD OF 'laws.FnTreeInclusion'. -/
def fnTreeInclusionCard : Claim7 := { stood := { row := fnTreeInclusionRow, standIns := [], harness := (true, "9941d0fa3cd8c936c5c0dcce15b34cdfacdc82e495e10f9c357b7c686b5e4718"), looks := true }, kinds := [], alts := [], laidByText := true, laidKinds := [.data], laidTests := true, laidLooks := .later }
def FnTreeInclusionCardSaid : Prop := Claim7.holds Tryd.pinned (.plain (OpenSpec.ofChange fnTreeInclusionSpec)) fnTreeInclusionCard

/-- THE TIED CARD OF 'laws.FnInclusionKept'. -/
def fnInclusionKeptCard : Claim7 := { stood := { row := fnInclusionKeptRow, standIns := [], harness := (true, "9941d0fa3cd8c936c5c0dcce15b34cdfacdc82e495e10f9c357b7c686b5e4718"), looks := true }, kinds := [], alts := [], laidByText := true, laidKinds := [.data], laidTests := true, laidLooks := .later }
def FnInclusionKeptCardSaid : Prop := Claim7.holds Tryd.pinned (.plain (OpenSpec.ofChange fnInclusionKeptSpec)) fnInclusionKeptCard

/-- THE SECOND FORM's CARD OF 'laws.FnTreeOfTrees'. -/
def fnTreeOfTreesUptoCard : Claim7 := { stood := { row := fnTreeOfTreesUptoRow, standIns := [], harness := (true, "9941d0fa3cd8c936c5c0dcce15b34cdfacdc82e495e10f9c357b7c686b5e4718"), looks := true }, kinds := [], alts := [], laidByText := true, laidKinds := [.data], laidTests := true, laidLooks := .later }
def FnTreeOfTreesUptoCardSaid : Prop := Claim7.holds Tryd.pinned (.plain (OpenSpec.upto fnTreeOfTreesSpec)) fnTreeOfTreesUptoCard

/-- THE SECOND FORM's CARD OF 'laws.FnTreesTell'. -/
def fnTreesTellUptoCard : Claim7 := { stood := { row := fnTreesTellUptoRow, standIns := [], harness := (true, "9941d0fa3cd8c936c5c0dcce15b34cdfacdc82e495e10f9c357b7c686b5e4718"), looks := true }, kinds := [], alts := [], laidByText := true, laidKinds := [.data], laidTests := true, laidLooks := .later }
def FnTreesTellUptoCardSaid : Prop := Claim7.holds Tryd.pinned (.plain (OpenSpec.upto fnTreesTellSpec)) fnTreesTellUptoCard

/-- THE SECOND FORM's CARD OF 'laws.FnConsistencyBinds'. -/
def fnConsistencyBindsUptoCard : Claim7 := { stood := { row := fnConsistencyBindsUptoRow, standIns := [], harness := (true, "9941d0fa3cd8c936c5c0dcce15b34cdfacdc82e495e10f9c357b7c686b5e4718"), looks := true }, kinds := [], alts := [], laidByText := true, laidKinds := [.data], laidTests := true, laidLooks := .later }
def FnConsistencyBindsUptoCardSaid : Prop := Claim7.holds Tryd.pinned (.plain (OpenSpec.upto fnConsistencyBindsSpec)) fnConsistencyBindsUptoCard

/-- THE SECOND FORM's CARD OF 'laws.FnRangeAppend'. -/
def fnRangeAppendUptoCard : Claim7 := { stood := { row := fnRangeAppendUptoRow, standIns := [], harness := (true, "9941d0fa3cd8c936c5c0dcce15b34cdfacdc82e495e10f9c357b7c686b5e4718"), looks := true }, kinds := [], alts := [], laidByText := true, laidKinds := [.data], laidTests := true, laidLooks := .later }
def FnRangeAppendUptoCardSaid : Prop := Claim7.holds Tryd.pinned (.plain (OpenSpec.upto fnRangeAppendSpec)) fnRangeAppendUptoCard

/-- THE SECOND FORM's CARD OF 'laws.FnRangeMergeLeaves'. -/
def fnRangeMergeLeavesUptoCard : Claim7 := { stood := { row := fnRangeMergeLeavesUptoRow, standIns := [], harness := (true, "9941d0fa3cd8c936c5c0dcce15b34cdfacdc82e495e10f9c357b7c686b5e4718"), looks := true }, kinds := [], alts := [], laidByText := true, laidKinds := [.data], laidTests := true, laidLooks := .later }
def FnRangeMergeLeavesUptoCardSaid : Prop := Claim7.holds Tryd.pinned (.plain (OpenSpec.upto fnRangeMergeLeavesSpec)) fnRangeMergeLeavesUptoCard

/-- THE SECOND FORM's CARD OF 'laws.FnInclusionSound'. -/
def fnInclusionSoundUptoCard : Claim7 := { stood := { row := fnInclusionSoundUptoRow, standIns := [], harness := (true, "9941d0fa3cd8c936c5c0dcce15b34cdfacdc82e495e10f9c357b7c686b5e4718"), looks := true }, kinds := [], alts := [], laidByText := true, laidKinds := [.data], laidTests := true, laidLooks := .later }
def FnInclusionSoundUptoCardSaid : Prop := Claim7.holds Tryd.pinned (.plain (OpenSpec.upto fnInclusionSoundSpec)) fnInclusionSoundUptoCard

/-- THE SECOND FORM's CARD OF 'laws.FnConsistencyMade'. -/
def fnConsistencyMadeUptoCard : Claim7 := { stood := { row := fnConsistencyMadeUptoRow, standIns := [], harness := (true, "9941d0fa3cd8c936c5c0dcce15b34cdfacdc82e495e10f9c357b7c686b5e4718"), looks := true }, kinds := [], alts := [], laidByText := true, laidKinds := [.data], laidTests := true, laidLooks := .later }
def FnConsistencyMadeUptoCardSaid : Prop := Claim7.holds Tryd.pinned (.plain (OpenSpec.upto fnConsistencyMadeSpec)) fnConsistencyMadeUptoCard

/-- THE SECOND FORM's CARD OF 'laws.FnTreeInclusion'. -/
def fnTreeInclusionUptoCard : Claim7 := { stood := { row := fnTreeInclusionUptoRow, standIns := [], harness := (true, "9941d0fa3cd8c936c5c0dcce15b34cdfacdc82e495e10f9c357b7c686b5e4718"), looks := true }, kinds := [], alts := [], laidByText := true, laidKinds := [.data], laidTests := true, laidLooks := .later }
def FnTreeInclusionUptoCardSaid : Prop := Claim7.holds Tryd.pinned (.plain (OpenSpec.upto fnTreeInclusionSpec)) fnTreeInclusionUptoCard

/-- THE SECOND FORM's CARD OF 'laws.FnInclusionKept'. -/
def fnInclusionKeptUptoCard : Claim7 := { stood := { row := fnInclusionKeptUptoRow, standIns := [], harness := (true, "9941d0fa3cd8c936c5c0dcce15b34cdfacdc82e495e10f9c357b7c686b5e4718"), looks := true }, kinds := [], alts := [], laidByText := true, laidKinds := [.data], laidTests := true, laidLooks := .later }
def FnInclusionKeptUptoCardSaid : Prop := Claim7.holds Tryd.pinned (.plain (OpenSpec.upto fnInclusionKeptSpec)) fnInclusionKeptUptoCard
end Rows
end Go.Proofs.YtkmdkmlgahfcpaaDoor
