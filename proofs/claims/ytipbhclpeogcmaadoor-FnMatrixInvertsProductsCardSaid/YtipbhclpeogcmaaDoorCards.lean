/-
  DERIVED. GIVEN WITH THE SEED: THE CARDS: each row of YtipbhclpeogcmaaDoorRows.lean that lists a variable, with what it lists TIED to the program's text (the seventh form; the later family's looks); each row that meets fmt, with fmt's text TOLD by the authors' own Lean function (tested against real Go, not proved from fmt's source: count such statements apart). THE CARD IS WHAT COUNTS. Prove the row's statement (the work); the ties are given (YtipbhclpeogcmaaDoorTie.lean); close each card by the builder's one call (the guide's Derived/Test/ToyasCard.lean, 'card_holds'). Laid BY PROGRAM, IN A SANDBOX (cutbox-door.mjs). By AI agents, Wed Nov 11 2026. No macro, syntax, notation, axiom, sorry.
-/
import Derived.Test.YtipbhclpeogcmaaDoorRows
import GoSem.ClaimSeven
namespace Go.Proofs.YtipbhclpeogcmaaDoor
namespace Rows

/-- THE TIED CARD OF 'laws.FnFieldHalves'. -/
def fnFieldHalvesCard : Claim7 := { stood := { row := fnFieldHalvesRow, standIns := [], harness := (true, "669e9f86a8b7e24802b9a14ec2ce0d43cc6449184c248bbaf810e40ef58fd8a8"), looks := false }, kinds := [], alts := [], laidByText := true, laidKinds := [.data, .data], laidTests := true, laidLooks := .later }
def FnFieldHalvesCardSaid : Prop := Claim7.holds Tryd.pinned (.plain (OpenSpec.ofChange fnFieldHalvesSpec)) fnFieldHalvesCard

/-- THE TIED CARD OF 'laws.FnFieldMultiplies'. -/
def fnFieldMultipliesCard : Claim7 := { stood := { row := fnFieldMultipliesRow, standIns := [], harness := (true, "669e9f86a8b7e24802b9a14ec2ce0d43cc6449184c248bbaf810e40ef58fd8a8"), looks := false }, kinds := [], alts := [], laidByText := true, laidKinds := [.data, .data], laidTests := true, laidLooks := .later }
def FnFieldMultipliesCardSaid : Prop := Claim7.holds Tryd.pinned (.plain (OpenSpec.ofChange fnFieldMultipliesSpec)) fnFieldMultipliesCard

/-- THE TIED CARD OF 'laws.FnFieldPowers'. -/
def fnFieldPowersCard : Claim7 := { stood := { row := fnFieldPowersRow, standIns := [], harness := (true, "669e9f86a8b7e24802b9a14ec2ce0d43cc6449184c248bbaf810e40ef58fd8a8"), looks := false }, kinds := [], alts := [], laidByText := true, laidKinds := [.data, .data], laidTests := true, laidLooks := .later }
def FnFieldPowersCardSaid : Prop := Claim7.holds Tryd.pinned (.plain (OpenSpec.ofChange fnFieldPowersSpec)) fnFieldPowersCard

/-- THE TIED CARD OF 'laws.FnMatrixIdentity'. -/
def fnMatrixIdentityCard : Claim7 := { stood := { row := fnMatrixIdentityRow, standIns := [], harness := (true, "669e9f86a8b7e24802b9a14ec2ce0d43cc6449184c248bbaf810e40ef58fd8a8"), looks := false }, kinds := [], alts := [], laidByText := true, laidKinds := [.sentinel, .sentinel], laidTests := true, laidLooks := .later }
def FnMatrixIdentityCardSaid : Prop := Claim7.holds Tryd.pinned (.plain (OpenSpec.ofChange fnMatrixIdentitySpec)) fnMatrixIdentityCard

/-- THE TIED CARD OF 'laws.FnMatrixMultiplies'. -/
def fnMatrixMultipliesCard : Claim7 := { stood := { row := fnMatrixMultipliesRow, standIns := [], harness := (true, "669e9f86a8b7e24802b9a14ec2ce0d43cc6449184c248bbaf810e40ef58fd8a8"), looks := false }, kinds := [], alts := [], laidByText := true, laidKinds := [.data, .data, .sentinel, .sentinel, .sentinel], laidTests := true, laidLooks := .later }
def FnMatrixMultipliesCardSaid : Prop := Claim7.holds Tryd.pinned (.plain (OpenSpec.ofChange fnMatrixMultipliesSpec)) fnMatrixMultipliesCard

/-- THE TIED CARD OF 'laws.FnMatrixInvertsProducts'. -/
def fnMatrixInvertsProductsCard : Claim7 := { stood := { row := fnMatrixInvertsProductsRow, standIns := [], harness := (true, "669e9f86a8b7e24802b9a14ec2ce0d43cc6449184c248bbaf810e40ef58fd8a8"), looks := false }, kinds := [], alts := [], laidByText := true, laidKinds := [.data, .data, .sentinel, .sentinel, .sentinel, .sentinel, .sentinel, .sentinel], laidTests := true, laidLooks := .later }
def FnMatrixInvertsProductsCardSaid : Prop := Claim7.holds Tryd.pinned (.plain (OpenSpec.ofChange fnMatrixInvertsProductsSpec)) fnMatrixInvertsProductsCard

/-- THE TIED CARD OF 'laws.FnCache'. -/
def fnCacheCard : Claim7 := { stood := { row := fnCacheRow, standIns := [], harness := (true, "669e9f86a8b7e24802b9a14ec2ce0d43cc6449184c248bbaf810e40ef58fd8a8"), looks := false }, kinds := [], alts := [], laidByText := true, laidKinds := [.sentinel, .sentinel, .sentinel, .sentinel, .sentinel], laidTests := true, laidLooks := .later }
def FnCacheCardSaid : Prop := Claim7.holds Tryd.pinned (.plain (OpenSpec.ofChange fnCacheSpec)) fnCacheCard

/-- THE SECOND FORM's CARD OF 'laws.FnFieldHalves'. -/
def fnFieldHalvesUptoCard : Claim7 := { stood := { row := fnFieldHalvesUptoRow, standIns := [], harness := (true, "669e9f86a8b7e24802b9a14ec2ce0d43cc6449184c248bbaf810e40ef58fd8a8"), looks := false }, kinds := [], alts := [], laidByText := true, laidKinds := [.data, .data], laidTests := true, laidLooks := .later }
def FnFieldHalvesUptoCardSaid : Prop := Claim7.holds Tryd.pinned (.plain (OpenSpec.upto fnFieldHalvesSpec)) fnFieldHalvesUptoCard

/-- THE SECOND FORM's CARD OF 'laws.FnFieldMultiplies'. -/
def fnFieldMultipliesUptoCard : Claim7 := { stood := { row := fnFieldMultipliesUptoRow, standIns := [], harness := (true, "669e9f86a8b7e24802b9a14ec2ce0d43cc6449184c248bbaf810e40ef58fd8a8"), looks := false }, kinds := [], alts := [], laidByText := true, laidKinds := [.data, .data], laidTests := true, laidLooks := .later }
def FnFieldMultipliesUptoCardSaid : Prop := Claim7.holds Tryd.pinned (.plain (OpenSpec.upto fnFieldMultipliesSpec)) fnFieldMultipliesUptoCard

/-- THE SECOND FORM's CARD OF 'laws.FnFieldPowers'. -/
def fnFieldPowersUptoCard : Claim7 := { stood := { row := fnFieldPowersUptoRow, standIns := [], harness := (true, "669e9f86a8b7e24802b9a14ec2ce0d43cc6449184c248bbaf810e40ef58fd8a8"), looks := false }, kinds := [], alts := [], laidByText := true, laidKinds := [.data, .data], laidTests := true, laidLooks := .later }
def FnFieldPowersUptoCardSaid : Prop := Claim7.holds Tryd.pinned (.plain (OpenSpec.upto fnFieldPowersSpec)) fnFieldPowersUptoCard

/-- THE SECOND FORM's CARD OF 'laws.FnMatrixIdentity'. -/
def fnMatrixIdentityUptoCard : Claim7 := { stood := { row := fnMatrixIdentityUptoRow, standIns := [], harness := (true, "669e9f86a8b7e24802b9a14ec2ce0d43cc6449184c248bbaf810e40ef58fd8a8"), looks := false }, kinds := [], alts := [], laidByText := true, laidKinds := [.sentinel, .sentinel], laidTests := true, laidLooks := .later }
def FnMatrixIdentityUptoCardSaid : Prop := Claim7.holds Tryd.pinned (.plain (OpenSpec.upto fnMatrixIdentitySpec)) fnMatrixIdentityUptoCard

/-- THE SECOND FORM's CARD OF 'laws.FnMatrixMultiplies'. -/
def fnMatrixMultipliesUptoCard : Claim7 := { stood := { row := fnMatrixMultipliesUptoRow, standIns := [], harness := (true, "669e9f86a8b7e24802b9a14ec2ce0d43cc6449184c248bbaf810e40ef58fd8a8"), looks := false }, kinds := [], alts := [], laidByText := true, laidKinds := [.data, .data, .sentinel, .sentinel, .sentinel], laidTests := true, laidLooks := .later }
def FnMatrixMultipliesUptoCardSaid : Prop := Claim7.holds Tryd.pinned (.plain (OpenSpec.upto fnMatrixMultipliesSpec)) fnMatrixMultipliesUptoCard

/-- THE SECOND FORM's CARD OF 'laws.FnMatrixInvertsProducts'. -/
def fnMatrixInvertsProductsUptoCard : Claim7 := { stood := { row := fnMatrixInvertsProductsUptoRow, standIns := [], harness := (true, "669e9f86a8b7e24802b9a14ec2ce0d43cc6449184c248bbaf810e40ef58fd8a8"), looks := false }, kinds := [], alts := [], laidByText := true, laidKinds := [.data, .data, .sentinel, .sentinel, .sentinel, .sentinel, .sentinel, .sentinel], laidTests := true, laidLooks := .later }
def FnMatrixInvertsProductsUptoCardSaid : Prop := Claim7.holds Tryd.pinned (.plain (OpenSpec.upto fnMatrixInvertsProductsSpec)) fnMatrixInvertsProductsUptoCard

/-- THE SECOND FORM's CARD OF 'laws.FnCache'. -/
def fnCacheUptoCard : Claim7 := { stood := { row := fnCacheUptoRow, standIns := [], harness := (true, "669e9f86a8b7e24802b9a14ec2ce0d43cc6449184c248bbaf810e40ef58fd8a8"), looks := false }, kinds := [], alts := [], laidByText := true, laidKinds := [.sentinel, .sentinel, .sentinel, .sentinel, .sentinel], laidTests := true, laidLooks := .later }
def FnCacheUptoCardSaid : Prop := Claim7.holds Tryd.pinned (.plain (OpenSpec.upto fnCacheSpec)) fnCacheUptoCard
end Rows
end Go.Proofs.YtipbhclpeogcmaaDoor
