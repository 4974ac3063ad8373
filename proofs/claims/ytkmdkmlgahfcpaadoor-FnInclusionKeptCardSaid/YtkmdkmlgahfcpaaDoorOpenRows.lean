/- An argument of the type []byte, or [][]byte, opened: its values read as lists of bytes. -/
import Derived.Test.YtkmdkmlgahfcpaaDoorWWords
import Derived.Deep.Slices
import Derived.Lib.SmallJoins
import Derived.ChangeOld
import Derived.WalkKit
namespace Go.Proofs.YtkmdkmlgahfcpaaDoor.OpenRows
open Go Go.RowKit Go.ChangeShapes Go.WideShapes Go.Deep Go.Proofs.YtkmdkmlgahfcpaaDoorW.PrintWords
set_option linter.unusedVariables false
theorem choose_of {α : Type} (d : α) {n : Nat} {p : Nat → α → Prop} (h : ∀ i, i < n → ∃ z, p i z) : ∃ Z : Nat → α, ∀ i, i < n → p i (Z i) := by
 refine ⟨fun i => if h' : i < n then Classical.choose (h i h') else d, fun i hi => ?_⟩
 simp only [dif_pos hi]
 exact Classical.choose_spec (h i hi)
variable {H : Type} {enc : TypeId × Value → H} {P : Program} {w : World} {base : Nat} {held : Bool}
theorem at_range {α : Type} (Z : Nat → α) (len j : Nat) (x : α) (h : ((List.range len).map Z)[j]? = some x) : j < len ∧ x = Z j := by
 rw [List.getElem?_map] at h
 cases hr : (List.range len)[j]? with
 | none => rw [hr] at h; cases h
 | some q =>
  rw [hr] at h
  obtain ⟨hj, e⟩ := List.getElem?_eq_some_iff.1 hr
  rw [List.length_range] at hj
  rw [List.getElem_range] at e
  subst e
  injection h with h
  exact ⟨hj, h.symm⟩
theorem bytes {t e : TypeId} {fuel : Nat} {cs : List Value} {x : DataW H × List MemPlace} (ht : P.underlying t = some (.slice e)) (hc : P.cellsOf e = 1) (he : P.underlying e = some (.int .u8))
  (h : DataW.trod enc P w base (fun _ => true) held fuel t cs = some x) :
  ∃ (A : Option Addr) (c : Nat) (xs : List Int), cs = [.slice A xs.length c] ∧ xs.length ≤ c ∧ c ≤ maxLen ∧ (Kd.int .u8).C w A xs.length xs ∧ ∀ y ∈ xs, 0 ≤ y ∧ y < 256 := by
 rcases open_slice1 ht hc h with ⟨rfl, _⟩ | ⟨a, len, cap, m, n, V, D, Pl, rfl, _, hl, hm, hmm, _, hx⟩
 ·exact ⟨none, 0, [], rfl, Nat.le_refl _, Nat.zero_le _, Kd.C_nil _ _, fun _ h => by cases h⟩
 ·simp only [if_true] at hmm
  subst hmm
  obtain ⟨Z, hZ⟩ := choose_of (0 : Int) (n := len) (p := fun i z => V i = .int .u8 z ∧ 0 ≤ z ∧ z < 256) (fun i hi => by
   obtain ⟨h1, h2⟩ := hx i (by omega)
   obtain ⟨z, hz, _, hw⟩ := DataW.trod_int he h2
   injection hz with hz
   refine ⟨z, hz, ?_⟩
   simp [Lit.wf, IntKind.min, IntKind.max, IntKind.signed, IntKind.bits] at hw
   omega)
  have hlen : ((List.range len).map Z).length = len := by rw [List.length_map, List.length_range]
  refine ⟨some a, m, (List.range len).map Z, by rw [hlen], by rw [hlen]; exact hl, hm, ?_, ?_⟩
  ·refine ⟨rfl, by rw [hlen]; unfold maxLen at hm; omega, fun _ => ⟨a, rfl, fun j p hj => ?_⟩⟩
   obtain ⟨hj1, rfl⟩ := at_range Z len j p hj
   refine ⟨[.int .u8 (Z j)], rfl, rfl, fun i u hu => ?_⟩
   match i, hu with
   | 0, hu =>
    injection hu with hu
    subst hu
    have e1 : (Kd.int .u8).sz = 1 := rfl
    rw [e1, Nat.mul_one, Nat.add_zero, (hx j (by omega)).1, (hZ j hj1).1]
  ·intro y hy
   rw [List.mem_map] at hy
   obtain ⟨i, hi, rfl⟩ := hy
   exact (hZ i (List.mem_range.1 hi)).2
theorem rows {t t2 e : TypeId} {fuel : Nat} {cs : List Value} {x : DataW H × List MemPlace} (ht : P.underlying t = some (.slice t2)) (hc2 : P.cellsOf t2 = 1) (ht2 : P.underlying t2 = some (.slice e)) (hc : P.cellsOf e = 1) (he : P.underlying e = some (.int .u8)) (b : TypeId)
  (h : DataW.trod enc P w base (fun _ => true) held fuel t cs = some x) :
  ∃ (A : Option Addr) (c : Nat) (xs : List (List Int)), cs = [.slice A xs.length c] ∧ xs.length ≤ c ∧ c ≤ maxLen ∧ (Kd.slice b (Kd.int .u8)).C w A xs.length xs ∧ ∀ r ∈ xs, ∀ y ∈ r, 0 ≤ y ∧ y < 256 := by
 rcases open_slice1 ht hc2 h with ⟨rfl, _⟩ | ⟨a, len, cap, m, n, V, D, Pl, rfl, _, hl, hm, hmm, _, hx⟩
 ·exact ⟨none, 0, [], rfl, Nat.le_refl _, Nat.zero_le _, Kd.C_nil _ _, fun _ h => by cases h⟩
 ·simp only [if_true] at hmm
  subst hmm
  obtain ⟨Z, hZ⟩ := choose_of ([] : List Int) (n := len) (p := fun i z => ∃ A c, V i = .slice A z.length c ∧ z.length ≤ c ∧ (Kd.int .u8).C w A z.length z ∧ ∀ y ∈ z, 0 ≤ y ∧ y < 256) (fun i hi => by
   obtain ⟨h1, h2⟩ := hx i (by omega)
   obtain ⟨A, c, z, hz, hzc, _, hC, hB⟩ := bytes ht2 hc he h2
   injection hz with hz
   exact ⟨z, A, c, hz, hzc, hC, hB⟩)
  have hlen : ((List.range len).map Z).length = len := by rw [List.length_map, List.length_range]
  refine ⟨some a, m, (List.range len).map Z, by rw [hlen], by rw [hlen]; exact hl, hm, ?_, ?_⟩
  ·refine ⟨rfl, by rw [hlen]; unfold maxLen at hm; omega, fun _ => ⟨a, rfl, fun j p hj => ?_⟩⟩
   obtain ⟨hj1, rfl⟩ := at_range Z len j p hj
   obtain ⟨A, c, hV, hzc, hC, _⟩ := hZ j hj1
   refine ⟨[V j], rfl, ⟨A, c, by rw [hV], hzc, hC⟩, fun i u hu => ?_⟩
   match i, hu with
   | 0, hu =>
    injection hu with hu
    subst hu
    have e1 : (Kd.slice b (Kd.int .u8)).sz = 1 := rfl
    rw [e1, Nat.mul_one, Nat.add_zero, (hx j (by omega)).1]
  ·intro r hr y hy
   rw [List.mem_map] at hr
   obtain ⟨i, hi, rfl⟩ := hr
   obtain ⟨_, _, _, _, _, hB⟩ := hZ i (List.mem_range.1 hi)
   exact hB y hy
theorem open_agg6 {r : Reach} {b0 : Nat} {t : TypeId} {f0 f1 f2 f3 f4 f5 : Field} {v : Value} {d : DataW H} {p : List MemPlace} (hs : P.underlying t = some (.struct #[f0, f1, f2, f3, f4, f5])) (hone : oneCellFields P #[f0, f1, f2, f3, f4, f5] = true) (hC : P.cellsOf t = 6)
  (hv : Value.okWide P w r b0 t v) (h : DataW.Trod enc P w base (fun _ => true) held t v d p) :
  ∃ (v0 v1 v2 v3 v4 v5 : Value) (y0 y1 y2 y3 y4 y5 : DataW H × List MemPlace) (n : Nat), v = .agg #[v0, v1, v2, v3, v4, v5] ∧ d = .agg [y0.1, y1.1, y2.1, y3.1, y4.1, y5.1] ∧ p = y0.2 ++ (y1.2 ++ (y2.2 ++ (y3.2 ++ (y4.2 ++ (y5.2))))) ∧ DataW.trod enc P w base (fun _ => true) held n f0.type [v0] = some y0 ∧ DataW.trod enc P w base (fun _ => true) held n f1.type [v1] = some y1 ∧ DataW.trod enc P w base (fun _ => true) held n f2.type [v2] = some y2 ∧ DataW.trod enc P w base (fun _ => true) held n f3.type [v3] = some y3 ∧ DataW.trod enc P w base (fun _ => true) held n f4.type [v4] = some y4 ∧ DataW.trod enc P w base (fun _ => true) held n f5.type [v5] = some y5 := by
 obtain ⟨cells, rfl, hsz⟩ := okWide_struct hs hv
 have hsz2 := hsz.trans hC
 obtain ⟨l⟩ := cells
 match l, hsz2 with
 | [c0, c1, c2, c3, c4, c5], _ =>
  obtain ⟨fuel, hf⟩ := h
  obtain ⟨xs, n, _, hx, _, hlen, hg⟩ := DataW.trod_struct hs hf
  obtain ⟨o0, k0⟩ := hone_of hone 0 f0 rfl
  obtain ⟨o1, k1⟩ := hone_of hone 1 f1 rfl
  obtain ⟨o2, k2⟩ := hone_of hone 2 f2 rfl
  obtain ⟨o3, k3⟩ := hone_of hone 3 f3 rfl
  obtain ⟨o4, k4⟩ := hone_of hone 4 f4 rfl
  obtain ⟨o5, k5⟩ := hone_of hone 5 f5 rfl
  have g0 := hg 0 f0 rfl
  rw [o0, k0] at g0
  have g1 := hg 1 f1 rfl
  rw [o1, k1] at g1
  have g2 := hg 2 f2 rfl
  rw [o2, k2] at g2
  have g3 := hg 3 f3 rfl
  rw [o3, k3] at g3
  have g4 := hg 4 f4 rfl
  rw [o4, k4] at g4
  have g5 := hg 5 f5 rfl
  rw [o5, k5] at g5
  match xs, hlen with
  | [y0, y1, y2, y3, y4, y5], _ =>
   simp only [Prod.mk.injEq] at hx
   exact ⟨c0, c1, c2, c3, c4, c5, y0, y1, y2, y3, y4, y5, n, rfl, by simpa using hx.1, by simpa using hx.2, by simpa [Value.cells] using g0, by simpa [Value.cells] using g1, by simpa [Value.cells] using g2, by simpa [Value.cells] using g3, by simpa [Value.cells] using g4, by simpa [Value.cells] using g5⟩
end Go.Proofs.YtkmdkmlgahfcpaaDoor.OpenRows
