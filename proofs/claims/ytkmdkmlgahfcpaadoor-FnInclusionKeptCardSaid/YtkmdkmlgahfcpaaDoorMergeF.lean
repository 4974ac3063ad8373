/- Plain lists, no program: two neighbouring compact ranges are merged along a path of levels. -/
namespace Go.Proofs.YtkmdkmlgahfcpaaDoor.Mrg
def mgF {V : Type} (mk : Nat → Nat → List Int → V) (hc : List Int → List Int → Option (List Int)) : Nat → Nat → Nat → List (List Int) → List (List Int) → List Int → List V → Option (List (List Int) × List V)
 | 0, _, _, L, R, s, vis => some (L ++ s :: R, vis)
 | d + 1, h, x, L, R, s, vis =>
  if x % 2 = 0 then R.head?.bind fun r => (hc s r).bind fun y => mgF mk hc d (h + 1) (x / 2) L R.tail y (vis ++ [mk (h + 1) (x / 2) y])
  else L.getLast?.bind fun l => (hc l s).bind fun y => mgF mk hc d (h + 1) (x / 2) L.dropLast R y (vis ++ [mk (h + 1) (x / 2) y])
end Go.Proofs.YtkmdkmlgahfcpaaDoor.Mrg
