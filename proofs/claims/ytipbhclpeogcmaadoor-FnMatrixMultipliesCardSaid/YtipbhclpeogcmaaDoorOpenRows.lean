/- An argument of the type []byte, or [][]byte, opened: its values read as lists of bytes. -/
import Derived.Test.YtipbhclpeogcmaaDoorWWords
import Derived.Deep.Slices
import Derived.ChangeOld
import Derived.WalkKit
namespace Go.Proofs.YtipbhclpeogcmaaDoor.OpenRows
open Go Go.RowKit Go.ChangeShapes Go.WideShapes Go.Deep Go.Proofs.YtipbhclpeogcmaaDoorW.PrintWords
set_option linter.unusedVariables false
theorem choose_of {α : Type} (d : α) {n : Nat} {p : Nat → α → Prop} (h : ∀ i, i < n → ∃ z, p i z) : ∃ Z : Nat → α, ∀ i, i < n → p i (Z i) := by
  refine ⟨fun i => if h' : i < n then Classical.choose (h i h') else d, fun i hi => ?_⟩
  simp only [dif_pos hi]
  exact Classical.choose_spec (h i hi)
variable {H : Type} {enc : TypeId × Value → H} {P : Program} {w : World} {base : Nat} {held : Bool}
theorem at_range {α : Type} (Z : Nat → α) (len j : Nat) (x : α) (h : ((List.range len).map Z)[j]? = some x) : j < len ∧ x = Z j := by
  rw [List.getElem?_map] at h
  cases hr : (List.range len)[j]? with
  | none => rw [hr] at h; cases h
  | some q =>
    rw [hr] at h
    obtain ⟨hj, e⟩ := List.getElem?_eq_some_iff.1 hr
    rw [List.length_range] at hj
    rw [List.getElem_range] at e
    subst e
    injection h with h
    exact ⟨hj, h.symm⟩
theorem bytes {t e : TypeId} {fuel : Nat} {cs : List Value} {x : DataW H × List MemPlace} (ht : P.underlying t = some (.slice e)) (hc : P.cellsOf e = 1) (he : P.underlying e = some (.int .u8))
    (h : DataW.trod enc P w base (fun _ => true) held fuel t cs = some x) :
    ∃ (A : Option Addr) (c : Nat) (xs : List Int), cs = [.slice A xs.length c] ∧ xs.length ≤ c ∧ c ≤ maxLen ∧ (Kd.int .u8).C w A xs.length xs ∧ ∀ y ∈ xs, 0 ≤ y ∧ y < 256 := by
  rcases open_slice1 ht hc h with ⟨rfl, _⟩ | ⟨a, len, cap, m, n, V, D, Pl, rfl, _, hl, hm, hmm, _, hx⟩
  · exact ⟨none, 0, [], rfl, Nat.le_refl _, Nat.zero_le _, Kd.C_nil _ _, fun _ h => by cases h⟩
  · simp only [if_true] at hmm
    subst hmm
    obtain ⟨Z, hZ⟩ := choose_of (0 : Int) (n := len) (p := fun i z => V i = .int .u8 z ∧ 0 ≤ z ∧ z < 256) (fun i hi => by
      obtain ⟨h1, h2⟩ := hx i (by omega)
      obtain ⟨z, hz, _, hw⟩ := DataW.trod_int he h2
      injection hz with hz
      refine ⟨z, hz, ?_⟩
      simp [Lit.wf, IntKind.min, IntKind.max, IntKind.signed, IntKind.bits] at hw
      omega)
    have hlen : ((List.range len).map Z).length = len := by rw [List.length_map, List.length_range]
    refine ⟨some a, m, (List.range len).map Z, by rw [hlen], by rw [hlen]; exact hl, hm, ?_, ?_⟩
    · refine ⟨rfl, by rw [hlen]; unfold maxLen at hm; omega, fun _ => ⟨a, rfl, fun j p hj => ?_⟩⟩
      obtain ⟨hj1, rfl⟩ := at_range Z len j p hj
      refine ⟨[.int .u8 (Z j)], rfl, rfl, fun i u hu => ?_⟩
      match i, hu with
      | 0, hu =>
        injection hu with hu
        subst hu
        have e1 : (Kd.int .u8).sz = 1 := rfl
        rw [e1, Nat.mul_one, Nat.add_zero, (hx j (by omega)).1, (hZ j hj1).1]
    · intro y hy
      rw [List.mem_map] at hy
      obtain ⟨i, hi, rfl⟩ := hy
      exact (hZ i (List.mem_range.1 hi)).2
theorem rows {t t2 e : TypeId} {fuel : Nat} {cs : List Value} {x : DataW H × List MemPlace} (ht : P.underlying t = some (.slice t2)) (hc2 : P.cellsOf t2 = 1) (ht2 : P.underlying t2 = some (.slice e)) (hc : P.cellsOf e = 1) (he : P.underlying e = some (.int .u8)) (b : TypeId)
    (h : DataW.trod enc P w base (fun _ => true) held fuel t cs = some x) :
    ∃ (A : Option Addr) (c : Nat) (xs : List (List Int)), cs = [.slice A xs.length c] ∧ xs.length ≤ c ∧ c ≤ maxLen ∧ (Kd.slice b (Kd.int .u8)).C w A xs.length xs ∧ ∀ r ∈ xs, ∀ y ∈ r, 0 ≤ y ∧ y < 256 := by
  rcases open_slice1 ht hc2 h with ⟨rfl, _⟩ | ⟨a, len, cap, m, n, V, D, Pl, rfl, _, hl, hm, hmm, _, hx⟩
  · exact ⟨none, 0, [], rfl, Nat.le_refl _, Nat.zero_le _, Kd.C_nil _ _, fun _ h => by cases h⟩
  · simp only [if_true] at hmm
    subst hmm
    obtain ⟨Z, hZ⟩ := choose_of ([] : List Int) (n := len) (p := fun i z => ∃ A c, V i = .slice A z.length c ∧ z.length ≤ c ∧ (Kd.int .u8).C w A z.length z ∧ ∀ y ∈ z, 0 ≤ y ∧ y < 256) (fun i hi => by
      obtain ⟨h1, h2⟩ := hx i (by omega)
      obtain ⟨A, c, z, hz, hzc, _, hC, hB⟩ := bytes ht2 hc he h2
      injection hz with hz
      exact ⟨z, A, c, hz, hzc, hC, hB⟩)
    have hlen : ((List.range len).map Z).length = len := by rw [List.length_map, List.length_range]
    refine ⟨some a, m, (List.range len).map Z, by rw [hlen], by rw [hlen]; exact hl, hm, ?_, ?_⟩
    · refine ⟨rfl, by rw [hlen]; unfold maxLen at hm; omega, fun _ => ⟨a, rfl, fun j p hj => ?_⟩⟩
      obtain ⟨hj1, rfl⟩ := at_range Z len j p hj
      obtain ⟨A, c, hV, hzc, hC, _⟩ := hZ j hj1
      refine ⟨[V j], rfl, ⟨A, c, by rw [hV], hzc, hC⟩, fun i u hu => ?_⟩
      match i, hu with
      | 0, hu =>
        injection hu with hu
        subst hu
        have e1 : (Kd.slice b (Kd.int .u8)).sz = 1 := rfl
        rw [e1, Nat.mul_one, Nat.add_zero, (hx j (by omega)).1]
    · intro r hr y hy
      rw [List.mem_map] at hr
      obtain ⟨i, hi, rfl⟩ := hr
      obtain ⟨_, _, _, _, _, hB⟩ := hZ i (List.mem_range.1 hi)
      exact hB y hy
end Go.Proofs.YtipbhclpeogcmaaDoor.OpenRows
