/- The facts on the tables and the errors that FnMatrixInvertsProducts' walks read, out of its row's condition. -/
import Derived.Test.YtipbhclpeogcmaaDoorTabN
import Derived.Test.YtipbhclpeogcmaaDoorTabLaidF
import Derived.LaidLaws
namespace Go.Proofs.YtipbhclpeogcmaaDoor.M
open Go.RowKit
theorem err_of_head {P : Program} {W : World} {name nm : String} {d : DataW Unit} {rest : List (String × DataW Unit)} {g : Nat} {t : TypeId} {ms : Array (String × TypeId)}
    (hg : P.globalNamed name = some g) (hty : (P.globals[g]?).map (·.type) = some t) (hi : P.underlying t = some (.interface ms)) (h : laidMet P ((name, .iface nm d) :: rest) W) :
    ∃ (t : TypeId) (x : Value), W.cell? ⟨g, 0, none⟩ = some (.iface t x) := by
  obtain ⟨ps, ⟨g', t', cs, fuel, p, q, hg', ht', hvar, hd, _, _⟩, _⟩ := h
  obtain rfl := Option.some.inj (hg.symm.trans hg')
  obtain rfl := Option.some.inj (hty.symm.trans ht')
  obtain ⟨_, u, v, hcs, _, _⟩ := iface_of_trod hi hd
  refine ⟨u, v, ?_⟩
  have := World.var?_cell hg hvar 0
  rw [this]
  have e : cs = #[.iface u v] := by cases cs; simp_all
  rw [e]
  rfl
theorem one {P : Program} {W : World} {l : List (String × DataW Unit)} (name : String) (h : laidMet P l W) : laidMet P (l.filter fun x => x.1 == name) W := laidMet.filter (fun x => x.1 == name) h
set_option maxRecDepth 100000 in
/-- The row's condition lays the tables and the errors. -/
theorem tabOK_of_laid {W : World} (h : laidMet Tryd.prog Rows.fnMatrixInvertsProductsRow.laid W) : TabOK W := by
  have ht : Go.Proofs.YtipbhclpeogcmaaDoor.TabOK W := Go.Proofs.YtipbhclpeogcmaaDoor.tabOK_of_laid h
  have e4 := err_of_head (g := 4) (rest := []) (by kernel_rfl) (by kernel_rfl) Tryd.underlying60 (show laidMet Tryd.prog [("pub-sarsen/pub/reedsolomon.errInvalidRowSize", Rows.laid_pub_sarsen_pub_reedsolomon_errInvalidRowSize)] W from one "pub-sarsen/pub/reedsolomon.errInvalidRowSize" h)
  have e5 := err_of_head (g := 5) (rest := []) (by kernel_rfl) (by kernel_rfl) Tryd.underlying60 (show laidMet Tryd.prog [("pub-sarsen/pub/reedsolomon.errInvalidColSize", Rows.laid_pub_sarsen_pub_reedsolomon_errInvalidColSize)] W from one "pub-sarsen/pub/reedsolomon.errInvalidColSize" h)
  have e6 := err_of_head (g := 6) (rest := []) (by kernel_rfl) (by kernel_rfl) Tryd.underlying60 (show laidMet Tryd.prog [("pub-sarsen/pub/reedsolomon.errColSizeMismatch", Rows.laid_pub_sarsen_pub_reedsolomon_errColSizeMismatch)] W from one "pub-sarsen/pub/reedsolomon.errColSizeMismatch" h)
  have e7 := err_of_head (g := 7) (rest := []) (by kernel_rfl) (by kernel_rfl) Tryd.underlying60 (show laidMet Tryd.prog [("pub-sarsen/pub/reedsolomon.errMatrixSize", Rows.laid_pub_sarsen_pub_reedsolomon_errMatrixSize)] W from one "pub-sarsen/pub/reedsolomon.errMatrixSize" h)
  have e8 := err_of_head (g := 8) (rest := []) (by kernel_rfl) (by kernel_rfl) Tryd.underlying60 (show laidMet Tryd.prog [("pub-sarsen/pub/reedsolomon.errSingular", Rows.laid_pub_sarsen_pub_reedsolomon_errSingular)] W from one "pub-sarsen/pub/reedsolomon.errSingular" h)
  have e9 := err_of_head (g := 1) (rest := []) (by kernel_rfl) (by kernel_rfl) Tryd.underlying60 (show laidMet Tryd.prog [("pub-sarsen/pub/reedsolomon.errNotSquare", Rows.laid_pub_sarsen_pub_reedsolomon_errNotSquare)] W from one "pub-sarsen/pub/reedsolomon.errNotSquare" h)
  refine ⟨ht.lg, ht.ex, fun g hg => ?_⟩
  simp only [errs, List.mem_cons, List.not_mem_nil, or_false] at hg
  rcases hg with rfl | rfl | rfl | rfl | rfl | rfl
  · exact e4
  · exact e5
  · exact e6
  · exact e7
  · exact e8
  · exact e9
end Go.Proofs.YtipbhclpeogcmaaDoor.M
