/- An argument of the type []CacheStep opened: its values read as a list of steps. -/
import Derived.Test.YtlfmplhleglibaaDoorM
import Derived.Test.YtlfmplhleglibaaDoorOpenRows
namespace Go.Proofs.YtlfmplhleglibaaDoor.OpenRows
open Go Go.RowKit Go.ChangeShapes Go.WideShapes Go.Deep Go.Proofs.YtlfmplhleglibaaDoorW.PrintWords
set_option linter.unusedVariables false
variable {H : Type} {enc : TypeId × Value → H} {P : Program} {w : World} {base : Nat} {held : Bool}
theorem ints {t e : TypeId} {fuel : Nat} {cs : List Value} {x : DataW H × List MemPlace} (ht : P.underlying t = some (.slice e)) (hc : P.cellsOf e = 1) (he : P.underlying e = some (.int .i64))
    (h : DataW.trod enc P w base (fun _ => true) held fuel t cs = some x) :
    ∃ (A : Option Addr) (c : Nat) (xs : List Int), cs = [.slice A xs.length c] ∧ xs.length ≤ c ∧ c ≤ maxLen ∧ (Kd.int .i64).C w A xs.length xs := by
  rcases open_slice1 ht hc h with ⟨rfl, _⟩ | ⟨a, len, cap, m, n, V, D, Pl, rfl, _, hl, hm, hmm, _, hx⟩
  · exact ⟨none, 0, [], rfl, Nat.le_refl _, Nat.zero_le _, Kd.C_nil _ _⟩
  · simp only [if_true] at hmm
    subst hmm
    obtain ⟨Z, hZ⟩ := choose_of (0 : Int) (n := len) (p := fun i z => V i = .int .i64 z) (fun i hi => by
      obtain ⟨h1, h2⟩ := hx i (by omega)
      obtain ⟨z, hz, _, hw⟩ := DataW.trod_int he h2
      injection hz with hz
      exact ⟨z, hz⟩)
    have hlen : ((List.range len).map Z).length = len := by rw [List.length_map, List.length_range]
    refine ⟨some a, m, (List.range len).map Z, by rw [hlen], by rw [hlen]; exact hl, hm, ?_⟩
    refine ⟨rfl, by rw [hlen]; unfold maxLen at hm; omega, fun _ => ⟨a, rfl, fun j p hj => ?_⟩⟩
    obtain ⟨hj1, rfl⟩ := at_range Z len j p hj
    refine ⟨[.int .i64 (Z j)], rfl, rfl, fun i u hu => ?_⟩
    match i, hu with
    | 0, hu =>
      injection hu with hu
      subst hu
      have e1 : (Kd.int .i64).sz = 1 := rfl
      rw [e1, Nat.mul_one, Nat.add_zero, (hx j (by omega)).1, hZ j hj1]
theorem steps {t e : TypeId} {f0 f1 f2 : Field} {fuel : Nat} {cs : List Value} {x : DataW H × List MemPlace} {rw_ by_ : TypeId} (ht : P.underlying t = some (.slice e)) (he : P.underlying e = some (.struct #[f0, f1, f2]))
    (hone : oneCellFields P #[f0, f1, f2] = true) (ce : P.cellsOf e = 3) (hf0 : P.underlying f0.type = some .bool)
    {i_ : TypeId} (hf1 : P.underlying f1.type = some (.slice i_)) (ci : P.cellsOf i_ = 1) (hi : P.underlying i_ = some (.int .i64))
    (hf2 : P.underlying f2.type = some (.slice rw_)) (cr : P.cellsOf rw_ = 1) (hr : P.underlying rw_ = some (.slice by_)) (cb : P.cellsOf by_ = 1) (hb : P.underlying by_ = some (.int .u8))
    (h : DataW.trod enc P w base (fun _ => true) held fuel t cs = some x) :
    ∃ (A : Option Addr) (c : Nat) (xs : List M.S27), cs = [.slice A xs.length c] ∧ xs.length ≤ c ∧ c ≤ maxLen ∧ Kd.C M.k27 w A xs.length xs := by
  rcases open_slice ht h with ⟨rfl, _⟩ | ⟨a, len, cap, m, n, D, Pl, rfl, _, hl, hm, hmm, _, hx⟩
  · exact ⟨none, 0, [], rfl, Nat.le_refl _, Nat.zero_le _, Kd.C_nil _ _⟩
  · simp only [if_true] at hmm
    subst hmm
    rw [ce] at hx
    obtain ⟨o0, c0⟩ := hone_of hone 0 f0 rfl
    obtain ⟨o1, c1⟩ := hone_of hone 1 f1 rfl
    obtain ⟨o2, c2⟩ := hone_of hone 2 f2 rfl
    obtain ⟨Z, hZ⟩ := choose_of M.z27 (n := len) (p := fun i z => ∃ cs', M.k27.K w z cs' ∧ cs'.length = 3 ∧ ∀ q u, cs'[q]? = some u → w.cell? (a.add (i * 3 + q)) = some u) (fun i hi' => by
      obtain ⟨cs', h1, h2⟩ := hx i (by omega)
      obtain ⟨_, hlen, hcell⟩ := World.cells?_some h1
      obtain ⟨xs, k, hk, hxy, _, hxl, hf⟩ := DataW.trod_struct he h2
      match xs, hxl, cs', hlen with
      | [y0, y1, y2], _, [v0, v1, v2], _ =>
        have g0 := hf 0 f0 rfl
        have g1 := hf 1 f1 rfl
        have g2 := hf 2 f2 rfl
        simp [o0, o1, o2, c0, c1, c2] at g0 g1 g2
        obtain ⟨b, hv0, _⟩ := DataW.trod_bool hf0 g0
        obtain ⟨A1, d1, l1, hv1, hl1, _, hC1⟩ := ints hf1 ci hi g1
        obtain ⟨A2, d2, l2, hv2, hl2, _, hC2, _⟩ := rows hf2 cr hr cb hb 32 g2
        injection hv0 with hv0
        injection hv1 with hv1
        injection hv2 with hv2
        subst hv0 hv1 hv2
        refine ⟨⟨b, l1, l2⟩, [.bool b, .slice A1 l1.length d1, .slice A2 l2.length d2], ⟨[.bool b], [.slice A1 l1.length d1, .slice A2 l2.length d2], rfl, rfl, [.slice A1 l1.length d1], [.slice A2 l2.length d2], rfl, ⟨A1, d1, rfl, hl1, hC1⟩, ⟨A2, d2, rfl, hl2, hC2⟩⟩, rfl, fun q u hq => ?_⟩
        have hq3 : q < 3 := (List.getElem?_eq_some_iff.1 hq).1
        have := hcell q hq3
        rw [Deep.add_add] at this
        rw [this, hq])
    have hlen : ((List.range len).map Z).length = len := by rw [List.length_map, List.length_range]
    refine ⟨some a, m, (List.range len).map Z, by rw [hlen], by rw [hlen]; exact hl, hm, ?_⟩
    refine ⟨rfl, by rw [hlen]; unfold maxLen at hm; omega, fun _ => ⟨a, rfl, fun j p hj => ?_⟩⟩
    obtain ⟨hj1, rfl⟩ := at_range Z len j p hj
    obtain ⟨cs', hK, hl3, hc⟩ := hZ j hj1
    exact ⟨cs', hl3, hK, hc⟩
end Go.Proofs.YtlfmplhleglibaaDoor.OpenRows
