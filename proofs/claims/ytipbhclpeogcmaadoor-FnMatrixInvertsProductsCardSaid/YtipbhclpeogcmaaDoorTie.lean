/-
  DERIVED. GIVEN WITH THE SEED: THE PROGRAM's TIES (one call each: nine closed facts by the kernel) AND EACH ROW's TIE, after the 31st guide's Derived/Test/Toyas{Tie, Card}.lean. No idea stands in it: it is a product of the set-up. Laid BY PROGRAM, IN A SANDBOX (cutbox-door.mjs). By AI agents, Wed Nov 11 2026. No macro, syntax, notation, axiom, sorry.
-/
import Derived.Test.YtipbhclpeogcmaaDoorRows
import Derived.LaidByTextLater
import Derived.SevenTiedAt
import Derived.LaidSub
import Derived.LaidOnce
namespace Go.Proofs.YtipbhclpeogcmaaDoor
open Go
set_option maxRecDepth 100000
theorem seatTie1 : Tryd.prog.laidByTextLater [("pub-sarsen/pub/reedsolomon.logTable", Rows.laid_pub_sarsen_pub_reedsolomon_logTable), ("pub-sarsen/pub/reedsolomon.expTable", Rows.laid_pub_sarsen_pub_reedsolomon_expTable)] [.data, .data] true :=
  Program.laidByTextLater_by_one 152 8 257 (by kernel_rfl) (by kernel_rfl) (by kernel_rfl) (by kernel_rfl) (by kernel_rfl) (by kernel_rfl) (fun _ _ => by kernel_rfl)
theorem seatTie2 : Tryd.prog.laidByTextLater [("pub-sarsen/pub/reedsolomon.errAlreadySet", Rows.laid_pub_sarsen_pub_reedsolomon_errAlreadySet), ("pub-sarsen/pub/reedsolomon.errInvalidRowSize", Rows.laid_pub_sarsen_pub_reedsolomon_errInvalidRowSize), ("pub-sarsen/pub/reedsolomon.errInvalidColSize", Rows.laid_pub_sarsen_pub_reedsolomon_errInvalidColSize), ("pub-sarsen/pub/reedsolomon.errColSizeMismatch", Rows.laid_pub_sarsen_pub_reedsolomon_errColSizeMismatch), ("pub-sarsen/pub/reedsolomon.errNotSquare", Rows.laid_pub_sarsen_pub_reedsolomon_errNotSquare)] [.sentinel, .sentinel, .sentinel, .sentinel, .sentinel] true :=
  Program.laidByTextLater_by_one 152 8 257 (by kernel_rfl) (by kernel_rfl) (by kernel_rfl) (by kernel_rfl) (by kernel_rfl) (by kernel_rfl) (fun _ _ => by kernel_rfl)
theorem seatTie3 : Tryd.prog.laidByTextLater [("pub-sarsen/pub/reedsolomon.logTable", Rows.laid_pub_sarsen_pub_reedsolomon_logTable), ("pub-sarsen/pub/reedsolomon.expTable", Rows.laid_pub_sarsen_pub_reedsolomon_expTable), ("pub-sarsen/pub/reedsolomon.errInvalidRowSize", Rows.laid_pub_sarsen_pub_reedsolomon_errInvalidRowSize), ("pub-sarsen/pub/reedsolomon.errInvalidColSize", Rows.laid_pub_sarsen_pub_reedsolomon_errInvalidColSize), ("pub-sarsen/pub/reedsolomon.errColSizeMismatch", Rows.laid_pub_sarsen_pub_reedsolomon_errColSizeMismatch)] [.data, .data, .sentinel, .sentinel, .sentinel] true :=
  Program.laidByTextLater_by_one 152 8 257 (by kernel_rfl) (by kernel_rfl) (by kernel_rfl) (by kernel_rfl) (by kernel_rfl) (by kernel_rfl) (fun _ _ => by kernel_rfl)
theorem seatTie4 : Tryd.prog.laidByTextLater [("pub-sarsen/pub/reedsolomon.logTable", Rows.laid_pub_sarsen_pub_reedsolomon_logTable), ("pub-sarsen/pub/reedsolomon.expTable", Rows.laid_pub_sarsen_pub_reedsolomon_expTable), ("pub-sarsen/pub/reedsolomon.errInvalidRowSize", Rows.laid_pub_sarsen_pub_reedsolomon_errInvalidRowSize), ("pub-sarsen/pub/reedsolomon.errInvalidColSize", Rows.laid_pub_sarsen_pub_reedsolomon_errInvalidColSize), ("pub-sarsen/pub/reedsolomon.errColSizeMismatch", Rows.laid_pub_sarsen_pub_reedsolomon_errColSizeMismatch), ("pub-sarsen/pub/reedsolomon.errMatrixSize", Rows.laid_pub_sarsen_pub_reedsolomon_errMatrixSize), ("pub-sarsen/pub/reedsolomon.errSingular", Rows.laid_pub_sarsen_pub_reedsolomon_errSingular), ("pub-sarsen/pub/reedsolomon.errNotSquare", Rows.laid_pub_sarsen_pub_reedsolomon_errNotSquare)] [.data, .data, .sentinel, .sentinel, .sentinel, .sentinel, .sentinel, .sentinel] true :=
  Program.laidByTextLater_by_one 152 8 257 (by kernel_rfl) (by kernel_rfl) (by kernel_rfl) (by kernel_rfl) (by kernel_rfl) (by kernel_rfl) (fun _ _ => by kernel_rfl)
theorem noOwnUnsafe : Tryd.pinned.checked.prog.headLifts.contains "ownunsafe" = false := by kernel_rfl
theorem tie : Tryd.prog.laidByTextLater [("pub-sarsen/pub/reedsolomon.logTable", Rows.laid_pub_sarsen_pub_reedsolomon_logTable), ("pub-sarsen/pub/reedsolomon.expTable", Rows.laid_pub_sarsen_pub_reedsolomon_expTable)] [.data, .data] true :=
  Program.laidByTextLater.sub seatTie1 ["pub-sarsen/pub/reedsolomon.logTable", "pub-sarsen/pub/reedsolomon.expTable"] (by kernel_rfl) (by kernel_rfl)
theorem fnFieldHalves_row_tie : Rows.fnFieldHalvesRow.laidByTextAt .later Tryd.pinned [.data, .data] true :=
  OpenClaim.laidByTextAt_later rfl rfl tie noOwnUnsafe
theorem fnFieldMultiplies_row_tie : Rows.fnFieldMultipliesRow.laidByTextAt .later Tryd.pinned [.data, .data] true :=
  OpenClaim.laidByTextAt_later rfl rfl tie noOwnUnsafe
theorem fnFieldPowers_row_tie : Rows.fnFieldPowersRow.laidByTextAt .later Tryd.pinned [.data, .data] true :=
  OpenClaim.laidByTextAt_later rfl rfl tie noOwnUnsafe
theorem tie2 : Tryd.prog.laidByTextLater [("pub-sarsen/pub/reedsolomon.errInvalidRowSize", Rows.laid_pub_sarsen_pub_reedsolomon_errInvalidRowSize), ("pub-sarsen/pub/reedsolomon.errInvalidColSize", Rows.laid_pub_sarsen_pub_reedsolomon_errInvalidColSize)] [.sentinel, .sentinel] true :=
  Program.laidByTextLater.sub seatTie2 ["pub-sarsen/pub/reedsolomon.errInvalidRowSize", "pub-sarsen/pub/reedsolomon.errInvalidColSize"] (by kernel_rfl) (by kernel_rfl)
theorem fnMatrixIdentity_row_tie : Rows.fnMatrixIdentityRow.laidByTextAt .later Tryd.pinned [.sentinel, .sentinel] true :=
  OpenClaim.laidByTextAt_later rfl rfl tie2 noOwnUnsafe
theorem tie3 : Tryd.prog.laidByTextLater [("pub-sarsen/pub/reedsolomon.logTable", Rows.laid_pub_sarsen_pub_reedsolomon_logTable), ("pub-sarsen/pub/reedsolomon.expTable", Rows.laid_pub_sarsen_pub_reedsolomon_expTable), ("pub-sarsen/pub/reedsolomon.errInvalidRowSize", Rows.laid_pub_sarsen_pub_reedsolomon_errInvalidRowSize), ("pub-sarsen/pub/reedsolomon.errInvalidColSize", Rows.laid_pub_sarsen_pub_reedsolomon_errInvalidColSize), ("pub-sarsen/pub/reedsolomon.errColSizeMismatch", Rows.laid_pub_sarsen_pub_reedsolomon_errColSizeMismatch)] [.data, .data, .sentinel, .sentinel, .sentinel] true :=
  Program.laidByTextLater.sub seatTie3 ["pub-sarsen/pub/reedsolomon.logTable", "pub-sarsen/pub/reedsolomon.expTable", "pub-sarsen/pub/reedsolomon.errInvalidRowSize", "pub-sarsen/pub/reedsolomon.errInvalidColSize", "pub-sarsen/pub/reedsolomon.errColSizeMismatch"] (by kernel_rfl) (by kernel_rfl)
theorem fnMatrixMultiplies_row_tie : Rows.fnMatrixMultipliesRow.laidByTextAt .later Tryd.pinned [.data, .data, .sentinel, .sentinel, .sentinel] true :=
  OpenClaim.laidByTextAt_later rfl rfl tie3 noOwnUnsafe
theorem tie4 : Tryd.prog.laidByTextLater [("pub-sarsen/pub/reedsolomon.logTable", Rows.laid_pub_sarsen_pub_reedsolomon_logTable), ("pub-sarsen/pub/reedsolomon.expTable", Rows.laid_pub_sarsen_pub_reedsolomon_expTable), ("pub-sarsen/pub/reedsolomon.errInvalidRowSize", Rows.laid_pub_sarsen_pub_reedsolomon_errInvalidRowSize), ("pub-sarsen/pub/reedsolomon.errInvalidColSize", Rows.laid_pub_sarsen_pub_reedsolomon_errInvalidColSize), ("pub-sarsen/pub/reedsolomon.errColSizeMismatch", Rows.laid_pub_sarsen_pub_reedsolomon_errColSizeMismatch), ("pub-sarsen/pub/reedsolomon.errMatrixSize", Rows.laid_pub_sarsen_pub_reedsolomon_errMatrixSize), ("pub-sarsen/pub/reedsolomon.errSingular", Rows.laid_pub_sarsen_pub_reedsolomon_errSingular), ("pub-sarsen/pub/reedsolomon.errNotSquare", Rows.laid_pub_sarsen_pub_reedsolomon_errNotSquare)] [.data, .data, .sentinel, .sentinel, .sentinel, .sentinel, .sentinel, .sentinel] true :=
  Program.laidByTextLater.sub seatTie4 ["pub-sarsen/pub/reedsolomon.logTable", "pub-sarsen/pub/reedsolomon.expTable", "pub-sarsen/pub/reedsolomon.errInvalidRowSize", "pub-sarsen/pub/reedsolomon.errInvalidColSize", "pub-sarsen/pub/reedsolomon.errColSizeMismatch", "pub-sarsen/pub/reedsolomon.errMatrixSize", "pub-sarsen/pub/reedsolomon.errSingular", "pub-sarsen/pub/reedsolomon.errNotSquare"] (by kernel_rfl) (by kernel_rfl)
theorem fnMatrixInvertsProducts_row_tie : Rows.fnMatrixInvertsProductsRow.laidByTextAt .later Tryd.pinned [.data, .data, .sentinel, .sentinel, .sentinel, .sentinel, .sentinel, .sentinel] true :=
  OpenClaim.laidByTextAt_later rfl rfl tie4 noOwnUnsafe
theorem tie5 : Tryd.prog.laidByTextLater [("pub-sarsen/pub/reedsolomon.errAlreadySet", Rows.laid_pub_sarsen_pub_reedsolomon_errAlreadySet), ("pub-sarsen/pub/reedsolomon.errInvalidRowSize", Rows.laid_pub_sarsen_pub_reedsolomon_errInvalidRowSize), ("pub-sarsen/pub/reedsolomon.errInvalidColSize", Rows.laid_pub_sarsen_pub_reedsolomon_errInvalidColSize), ("pub-sarsen/pub/reedsolomon.errColSizeMismatch", Rows.laid_pub_sarsen_pub_reedsolomon_errColSizeMismatch), ("pub-sarsen/pub/reedsolomon.errNotSquare", Rows.laid_pub_sarsen_pub_reedsolomon_errNotSquare)] [.sentinel, .sentinel, .sentinel, .sentinel, .sentinel] true :=
  Program.laidByTextLater.sub seatTie2 ["pub-sarsen/pub/reedsolomon.errAlreadySet", "pub-sarsen/pub/reedsolomon.errInvalidRowSize", "pub-sarsen/pub/reedsolomon.errInvalidColSize", "pub-sarsen/pub/reedsolomon.errColSizeMismatch", "pub-sarsen/pub/reedsolomon.errNotSquare"] (by kernel_rfl) (by kernel_rfl)
theorem fnCache_row_tie : Rows.fnCacheRow.laidByTextAt .later Tryd.pinned [.sentinel, .sentinel, .sentinel, .sentinel, .sentinel] true :=
  OpenClaim.laidByTextAt_later rfl rfl tie5 noOwnUnsafe
theorem fnFieldHalvesUpto_row_tie : Rows.fnFieldHalvesUptoRow.laidByTextAt .later Tryd.pinned [.data, .data] true :=
  OpenClaim.laidByTextAt_later rfl rfl tie noOwnUnsafe
theorem fnFieldMultipliesUpto_row_tie : Rows.fnFieldMultipliesUptoRow.laidByTextAt .later Tryd.pinned [.data, .data] true :=
  OpenClaim.laidByTextAt_later rfl rfl tie noOwnUnsafe
theorem fnFieldPowersUpto_row_tie : Rows.fnFieldPowersUptoRow.laidByTextAt .later Tryd.pinned [.data, .data] true :=
  OpenClaim.laidByTextAt_later rfl rfl tie noOwnUnsafe
theorem fnMatrixIdentityUpto_row_tie : Rows.fnMatrixIdentityUptoRow.laidByTextAt .later Tryd.pinned [.sentinel, .sentinel] true :=
  OpenClaim.laidByTextAt_later rfl rfl tie2 noOwnUnsafe
theorem fnMatrixMultipliesUpto_row_tie : Rows.fnMatrixMultipliesUptoRow.laidByTextAt .later Tryd.pinned [.data, .data, .sentinel, .sentinel, .sentinel] true :=
  OpenClaim.laidByTextAt_later rfl rfl tie3 noOwnUnsafe
theorem fnMatrixInvertsProductsUpto_row_tie : Rows.fnMatrixInvertsProductsUptoRow.laidByTextAt .later Tryd.pinned [.data, .data, .sentinel, .sentinel, .sentinel, .sentinel, .sentinel, .sentinel] true :=
  OpenClaim.laidByTextAt_later rfl rfl tie4 noOwnUnsafe
theorem fnCacheUpto_row_tie : Rows.fnCacheUptoRow.laidByTextAt .later Tryd.pinned [.sentinel, .sentinel, .sentinel, .sentinel, .sentinel] true :=
  OpenClaim.laidByTextAt_later rfl rfl tie5 noOwnUnsafe
end Go.Proofs.YtipbhclpeogcmaaDoor
