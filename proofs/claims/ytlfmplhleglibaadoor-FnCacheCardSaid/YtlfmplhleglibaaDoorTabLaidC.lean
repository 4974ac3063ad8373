/- The facts on the errors that FnCache's walks read, out of its row's condition. -/
import Derived.Test.YtlfmplhleglibaaDoorTabC
import Derived.Test.YtlfmplhleglibaaDoorRows
import Derived.RowKit
import Derived.Lib.LaidTab
import Derived.LaidSub
import Derived.LaidOnce
import Derived.KernelRfl
import Derived.LaidLaws
namespace Go.Proofs.YtlfmplhleglibaaDoor.M
open Go.RowKit
theorem err_of_head {P : Program} {W : World} {name nm : String} {d : DataW Unit} {rest : List (String × DataW Unit)} {g : Nat} {t : TypeId} {ms : Array (String × TypeId)}
    (hg : P.globalNamed name = some g) (hty : (P.globals[g]?).map (·.type) = some t) (hi : P.underlying t = some (.interface ms)) (h : laidMet P ((name, .iface nm d) :: rest) W) :
    ∃ (t : TypeId) (x : Value), W.cell? ⟨g, 0, none⟩ = some (.iface t x) := by
  obtain ⟨ps, ⟨g', t', cs, fuel, p, q, hg', ht', hvar, hd, _, _⟩, _⟩ := h
  obtain rfl := Option.some.inj (hg.symm.trans hg')
  obtain rfl := Option.some.inj (hty.symm.trans ht')
  obtain ⟨_, u, v, hcs, _, _⟩ := iface_of_trod hi hd
  refine ⟨u, v, ?_⟩
  have := World.var?_cell hg hvar 0
  rw [this]
  have e : cs = #[.iface u v] := by cases cs; simp_all
  rw [e]
  rfl
theorem one {P : Program} {W : World} {l : List (String × DataW Unit)} (name : String) (h : laidMet P l W) : laidMet P (l.filter fun x => x.1 == name) W := laidMet.filter (fun x => x.1 == name) h
set_option maxRecDepth 100000 in
/-- The row's condition lays the errors. -/
theorem tabOK_of_laid {W : World} (h : laidMet Tryd.prog Rows.fnCacheRow.laid W) : TabOK W := by
  have e0 := err_of_head (g := 2) (rest := []) (by kernel_rfl) (by kernel_rfl) Tryd.underlying47 (show laidMet Tryd.prog [("pub-sarsen/pub/reedsolomon.errInvalidRowSize", Rows.laid_pub_sarsen_pub_reedsolomon_errInvalidRowSize)] W from one "pub-sarsen/pub/reedsolomon.errInvalidRowSize" h)
  have e1 := err_of_head (g := 3) (rest := []) (by kernel_rfl) (by kernel_rfl) Tryd.underlying47 (show laidMet Tryd.prog [("pub-sarsen/pub/reedsolomon.errInvalidColSize", Rows.laid_pub_sarsen_pub_reedsolomon_errInvalidColSize)] W from one "pub-sarsen/pub/reedsolomon.errInvalidColSize" h)
  have e2 := err_of_head (g := 4) (rest := []) (by kernel_rfl) (by kernel_rfl) Tryd.underlying47 (show laidMet Tryd.prog [("pub-sarsen/pub/reedsolomon.errColSizeMismatch", Rows.laid_pub_sarsen_pub_reedsolomon_errColSizeMismatch)] W from one "pub-sarsen/pub/reedsolomon.errColSizeMismatch" h)
  have e3 := err_of_head (g := 0) (rest := []) (by kernel_rfl) (by kernel_rfl) Tryd.underlying47 (show laidMet Tryd.prog [("pub-sarsen/pub/reedsolomon.errAlreadySet", Rows.laid_pub_sarsen_pub_reedsolomon_errAlreadySet)] W from one "pub-sarsen/pub/reedsolomon.errAlreadySet" h)
  have e4 := err_of_head (g := 1) (rest := []) (by kernel_rfl) (by kernel_rfl) Tryd.underlying47 (show laidMet Tryd.prog [("pub-sarsen/pub/reedsolomon.errNotSquare", Rows.laid_pub_sarsen_pub_reedsolomon_errNotSquare)] W from one "pub-sarsen/pub/reedsolomon.errNotSquare" h)
  refine ⟨fun g hg => ?_⟩
  simp only [errs, List.mem_cons, List.not_mem_nil, or_false] at hg
  rcases hg with rfl | rfl | rfl | rfl | rfl
  · exact e0
  · exact e1
  · exact e2
  · exact e3
  · exact e4
end Go.Proofs.YtlfmplhleglibaaDoor.M
