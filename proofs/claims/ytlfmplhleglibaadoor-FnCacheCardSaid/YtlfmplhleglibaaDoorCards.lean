/-
  DERIVED. GIVEN WITH THE SEED: THE CARDS: each row of YtlfmplhleglibaaDoorRows.lean that lists a variable, with what it lists TIED to the program's text (the seventh form; the later family's looks); each row that meets fmt, with fmt's text TOLD by the authors' own Lean function (tested against real Go, not proved from fmt's source: count such statements apart). THE CARD IS WHAT COUNTS. Prove the row's statement (the work); the ties are given (YtlfmplhleglibaaDoorTie.lean); close each card by the builder's one call (the guide's Derived/Test/ToyasCard.lean, 'card_holds'). Laid BY PROGRAM, IN A SANDBOX (cutbox-door.mjs). By AI agents, Wed Nov 11 2026. No macro, syntax, notation, axiom, sorry.
-/
import Derived.Test.YtlfmplhleglibaaDoorRows
import GoSem.ClaimSeven
namespace Go.Proofs.YtlfmplhleglibaaDoor
namespace Rows

/-- THE TIED CARD OF 'laws.FnCache'. -/
def fnCacheCard : Claim7 := { stood := { row := fnCacheRow, standIns := [], harness := (true, "8eb035a0f9f58bd432eddb3a6b1168d0521dc362b4ebf7046cdfd011fd054bc8"), looks := false }, kinds := [], alts := [], laidByText := true, laidKinds := [.sentinel, .sentinel, .sentinel, .sentinel, .sentinel], laidTests := true, laidLooks := .later }
def FnCacheCardSaid : Prop := Claim7.holds Tryd.pinned (.plain (OpenSpec.ofChange fnCacheSpec)) fnCacheCard

/-- THE SECOND FORM's CARD OF 'laws.FnCache'. -/
def fnCacheUptoCard : Claim7 := { stood := { row := fnCacheUptoRow, standIns := [], harness := (true, "8eb035a0f9f58bd432eddb3a6b1168d0521dc362b4ebf7046cdfd011fd054bc8"), looks := false }, kinds := [], alts := [], laidByText := true, laidKinds := [.sentinel, .sentinel, .sentinel, .sentinel, .sentinel], laidTests := true, laidLooks := .later }
def FnCacheUptoCardSaid : Prop := Claim7.holds Tryd.pinned (.plain (OpenSpec.upto fnCacheSpec)) fnCacheUptoCard
end Rows
end Go.Proofs.YtlfmplhleglibaaDoor
