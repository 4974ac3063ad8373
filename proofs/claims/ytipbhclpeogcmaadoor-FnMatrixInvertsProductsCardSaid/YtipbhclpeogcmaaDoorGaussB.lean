/- Rows of a list of rows that are scaled, or to which a multiple of another row is added, entry by entry: what that is in plain functions. -/
import Derived.Test.YtipbhclpeogcmaaDoorGaussA
import Derived.Test.YtipbhclpeogcmaaDoorMulV
namespace Go.Proofs.YtipbhclpeogcmaaDoor.Gauss
open Go.Proofs.YtipbhclpeogcmaaDoor.MatM Go.Proofs.YtipbhclpeogcmaaDoor.Field
set_option linter.unusedVariables false
set_option linter.unusedSimpArgs false

def fe (x : Int) : E := ⟨x.toNat % 256, Nat.mod_lt _ (by decide)⟩
/-- A list of rows as a function. -/
def fn (X : List (List Int)) : Nat → Nat → E := fun i j => fe ((X.getD i []).getD j 0)
theorem fe_val {x : Int} (h0 : 0 ≤ x) (h1 : x < 256) : ((fe x).val : Int) = x := by unfold fe; simp only; omega
theorem fe_nat {n : Nat} (h : n < 256) : (fe (n : Int)).val = n := by unfold fe; simp only; omega
theorem fn_en {X : List (List Int)} (hB : Bytes X) (i j : Nat) : (fn X i j).val = en X i j := by
  have h := en_spec hB i j
  unfold fn fe
  simp only
  rw [h.1]
  have := h.2
  omega
theorem fn_zero {X : List (List Int)} (hB : Bytes X) (i j : Nat) : fn X i j = 0 ↔ en X i j = 0 := by
  rw [← fn_en hB i j]
  exact ⟨fun h => by rw [h]; rfl, fun h => Fin.ext h⟩
theorem fn_out {N M : Nat} {X : List (List Int)} (h : Sq N M X) (i j : Nat) (hi : i < N) (hj : M ≤ j) : fn X i j = 0 := by
  have e : (X.getD i []).getD j 0 = 0 := by
    rw [List.getD_eq_getElem?_getD, List.getElem?_eq_none (by rw [h.2 i hi]; exact hj)]
    rfl
  unfold fn
  rw [e]
  rfl
/-- The matrix with one entry more laid. -/
def put (X : List (List Int)) (i j v : Nat) : List (List Int) := X.set i ((X.getD i []).set j (v : Int))
theorem put_sq {N M : Nat} {X : List (List Int)} (h : Sq N M X) (i j v : Nat) (hi : i < N) : Sq N M (put X i j v) := h.set i _ (by rw [List.length_set]; exact h.2 i hi)
theorem mem_set_or {α : Type} {l : List α} {i : Nat} {v x : α} (h : x ∈ l.set i v) : x ∈ l ∨ x = v := List.mem_or_eq_of_mem_set h
theorem put_bytes {X : List (List Int)} (h : Bytes X) (i j v : Nat) (hv : v < 256) : Bytes (put X i j v) := by
  intro r hr x hx
  rcases mem_set_or hr with h1 | h1
  · exact h r h1 x hx
  · subst h1
    rcases mem_set_or hx with h2 | h2
    · rcases getD_mem X i [] with h3 | h3
      · exact h _ h3 x h2
      · rw [h3] at h2; cases h2
    · omega
theorem fn_put {N M : Nat} {X : List (List Int)} (h : Sq N M X) (i j v : Nat) (hi : i < N) (hj : j < M) (hv : v < 256) (i' j' : Nat) : fn (put X i j v) i' j' = if i' = i ∧ j' = j then ⟨v, hv⟩ else fn X i' j' := by
  unfold fn put
  rw [getD_set]
  by_cases h1 : i = i'
  · subst h1
    rw [if_pos ⟨rfl, by rw [h.1]; exact hi⟩, getD_set]
    by_cases h2 : j = j'
    · subst h2
      rw [if_pos ⟨rfl, by rw [h.2 i hi]; exact hj⟩, if_pos ⟨rfl, rfl⟩]
      exact Fin.ext (fe_nat hv)
    · rw [if_neg (fun h => h2 h.1), if_neg (fun h => h2 h.2.symm)]
  · rw [if_neg (fun h => h1 h.1), if_neg (fun h => h1 h.1.symm)]
/-- A matrix of the right form. -/
structure Ok (N M : Nat) (X : List (List Int)) : Prop where
  sq : Sq N M X
  by_ : Bytes X
theorem Ok.put {N M : Nat} {X : List (List Int)} (h : Ok N M X) (i j v : Nat) (hi : i < N) (hv : v < 256) : Ok N M (put X i j v) := ⟨put_sq h.sq i j v hi, put_bytes h.by_ i j v hv⟩
def scF (r s : Nat) : Nat → Nat → List (List Int) → List (List Int)
  | 0, _, X => X
  | n + 1, j, X => scF r s n (j + 1) (put X r j (gm (en X r j) s))
theorem scF_spec {N M : Nat} (r s : Nat) (hr : r < N) (hs : s < 256) : ∀ (n j : Nat) (X : List (List Int)), Ok N M X → j + n = M →
    Ok N M (scF r s n j X) ∧ ∀ i k, fn (scF r s n j X) i k = if i = r ∧ j ≤ k then ml (fn X i k) ⟨s, hs⟩ else fn X i k
  | 0, j, X, hX, h => by
    refine ⟨hX, fun i k => ?_⟩
    unfold scF
    split
    · rename_i e
      obtain ⟨rfl, e2⟩ := e
      rw [fn_out hX.sq i k hr (by omega), zero_ml]
    · rfl
  | n + 1, j, X, hX, h => by
    have hv := gm_lt' (en X r j) s
    obtain ⟨h1, h2⟩ := scF_spec r s hr hs n (j + 1) (put X r j (gm (en X r j) s)) (hX.put r j _ hr hv) (by omega)
    refine ⟨h1, fun i k => ?_⟩
    unfold scF
    rw [h2 i k, fn_put hX.sq r j _ hr (by omega) hv]
    by_cases e1 : i = r
    · subst e1
      by_cases e2 : k = j
      · subst e2
        rw [if_neg (by omega), if_pos ⟨rfl, rfl⟩, if_pos ⟨rfl, Nat.le_refl _⟩]
        refine Fin.ext ?_
        show gm (en X i k) s = gm (fn X i k).val s
        rw [fn_en hX.by_]
      · rw [if_neg (show ¬ (i = i ∧ k = j) from fun h => e2 h.2)]
        by_cases e3 : j ≤ k
        · rw [if_pos ⟨rfl, by omega⟩, if_pos ⟨rfl, e3⟩]
        · rw [if_neg (by omega), if_neg (by omega)]
    · rw [if_neg (fun h => e1 h.1), if_neg (fun h => e1 h.1), if_neg (fun h => e1 h.1)]
theorem scF_all {N M : Nat} {X : List (List Int)} (hX : Ok N M X) (r s : Nat) (hr : r < N) (hs : s < 256) : Ok N M (scF r s M 0 X) ∧ fn (scF r s M 0 X) = scaleR (fn X) r ⟨s, hs⟩ := by
  obtain ⟨h1, h2⟩ := scF_spec r s hr hs M 0 X hX (by omega)
  refine ⟨h1, ?_⟩
  funext i k
  rw [h2 i k]
  unfold scaleR
  by_cases e : i = r
  · subst e; rw [if_pos ⟨rfl, Nat.zero_le _⟩, if_pos rfl]
  · rw [if_neg (fun h => e h.1), if_neg e]
def adF (i r s : Nat) : Nat → Nat → List (List Int) → List (List Int)
  | 0, _, X => X
  | n + 1, j, X => adF i r s n (j + 1) (put X i j (en X i j ^^^ gm s (en X r j)))
theorem xor_lt {a b : Nat} (ha : a < 256) (hb : b < 256) : a ^^^ b < 256 := Nat.xor_lt_two_pow (n := 8) ha hb
theorem adF_spec {N M : Nat} (i r s : Nat) (hi : i < N) (hr : r < N) (hne : i ≠ r) (hs : s < 256) : ∀ (n j : Nat) (X : List (List Int)), Ok N M X → j + n = M →
    Ok N M (adF i r s n j X) ∧ ∀ i' k, fn (adF i r s n j X) i' k = if i' = i ∧ j ≤ k then ad (fn X i' k) (ml ⟨s, hs⟩ (fn X r k)) else fn X i' k
  | 0, j, X, hX, h => by
    refine ⟨hX, fun i' k => ?_⟩
    unfold adF
    split
    · rename_i e
      obtain ⟨rfl, e2⟩ := e
      rw [fn_out hX.sq r k hr (by omega), ml_zero, ad_zero]
    · rfl
  | n + 1, j, X, hX, h => by
    have hv := xor_lt (en_spec hX.by_ i j).2 (gm_lt' s (en X r j))
    obtain ⟨h1, h2⟩ := adF_spec i r s hi hr hne hs n (j + 1) (put X i j (en X i j ^^^ gm s (en X r j))) (hX.put i j _ hi hv) (by omega)
    refine ⟨h1, fun i' k => ?_⟩
    unfold adF
    rw [h2 i' k, fn_put hX.sq i j _ hi (by omega) hv, fn_put hX.sq i j _ hi (by omega) hv, if_neg (show ¬ (r = i ∧ k = j) from fun h => hne h.1.symm)]
    by_cases e1 : i' = i
    · subst e1
      by_cases e2 : k = j
      · subst e2
        rw [if_neg (by omega), if_pos ⟨rfl, rfl⟩, if_pos ⟨rfl, Nat.le_refl _⟩]
        refine Fin.ext ?_
        show en X i' k ^^^ gm s (en X r k) = (fn X i' k).val ^^^ gm s (fn X r k).val
        rw [fn_en hX.by_, fn_en hX.by_]
      · rw [if_neg (show ¬ (i' = i' ∧ k = j) from fun h => e2 h.2)]
        by_cases e3 : j ≤ k
        · rw [if_pos ⟨rfl, by omega⟩, if_pos ⟨rfl, e3⟩]
        · rw [if_neg (by omega), if_neg (by omega)]
    · rw [if_neg (fun h => e1 h.1), if_neg (fun h => e1 h.1), if_neg (fun h => e1 h.1)]
theorem adF_all {N M : Nat} {X : List (List Int)} (hX : Ok N M X) (i r s : Nat) (hi : i < N) (hr : r < N) (hne : i ≠ r) (hs : s < 256) : Ok N M (adF i r s M 0 X) ∧ fn (adF i r s M 0 X) = addR (fn X) i r ⟨s, hs⟩ := by
  obtain ⟨h1, h2⟩ := adF_spec i r s hi hr hne hs M 0 X hX (by omega)
  refine ⟨h1, ?_⟩
  funext i' k
  rw [h2 i' k]
  unfold addR
  by_cases e : i' = i
  · subst e; rw [if_pos ⟨rfl, Nat.zero_le _⟩, if_pos rfl]
  · rw [if_neg (fun h => e h.1), if_neg e]
/-- Two rows swapped. -/
def swF (X : List (List Int)) (r s : Nat) : List (List Int) := (X.set s (X.getD r [])).set r (X.getD s [])
theorem getD_bytes {X : List (List Int)} (h : Bytes X) (i : Nat) : ∀ x ∈ X.getD i [], 0 ≤ x ∧ x < 256 := by
  rcases getD_mem X i [] with h1 | h1
  · exact h _ h1
  · rw [h1]; intro x hx; cases hx
theorem swF_all {N M : Nat} {X : List (List Int)} (hX : Ok N M X) (r s : Nat) (hr : r < N) (hs : s < N) (hne : r ≠ s) : Ok N M (swF X r s) ∧ fn (swF X r s) = swapR (fn X) r s := by
  refine ⟨⟨(hX.sq.set s _ (hX.sq.2 r hr)).set r _ (hX.sq.2 s hs), ?_⟩, ?_⟩
  · intro l hl
    rcases mem_set_or hl with h1 | h1
    · rcases mem_set_or h1 with h2 | h2
      · exact hX.by_ l h2
      · subst h2; exact getD_bytes hX.by_ r
    · subst h1; exact getD_bytes hX.by_ s
  · funext i j
    unfold fn swF swapR
    rw [getD_set, List.length_set, getD_set]
    by_cases e1 : i = r
    · subst e1
      rw [if_pos ⟨rfl, by rw [hX.sq.1]; exact hr⟩, if_pos rfl]
    · rw [if_neg (fun h => e1 h.1.symm), if_neg e1]
      by_cases e2 : i = s
      · subst e2
        rw [if_pos ⟨rfl, by rw [hX.sq.1]; exact hs⟩, if_pos rfl]
      · rw [if_neg (fun h => e2 h.1.symm), if_neg e2]
theorem ext_of {N M : Nat} {X Y : List (List Int)} (hX : Ok N M X) (hY : Ok N M Y) (h : ∀ i j, i < N → j < M → fn X i j = fn Y i j) : X = Y := by
  apply List.ext_getElem (by rw [hX.sq.1, hY.sq.1])
  intro i h1 h2
  have hi : i < N := by rw [← hX.sq.1]; exact h1
  have e1 : X.getD i [] = X[i] := by rw [List.getD_eq_getElem?_getD, List.getElem?_eq_getElem h1]; rfl
  have e2 : Y.getD i [] = Y[i] := by rw [List.getD_eq_getElem?_getD, List.getElem?_eq_getElem h2]; rfl
  have l1 := hX.sq.2 i hi
  have l2 := hY.sq.2 i hi
  rw [e1] at l1
  rw [e2] at l2
  apply List.ext_getElem (by rw [l1, l2])
  intro j h3 h4
  have hj : j < M := by omega
  have hv := congrArg Fin.val (h i j hi hj)
  rw [fn_en hX.by_, fn_en hY.by_] at hv
  have a1 := (en_spec hX.by_ i j).1
  have a2 := (en_spec hY.by_ i j).1
  rw [hv, ← a2, e1, e2] at a1
  rw [List.getD_eq_getElem?_getD, List.getElem?_eq_getElem h3, List.getD_eq_getElem?_getD, List.getElem?_eq_getElem h4] at a1
  exact a1
end Go.Proofs.YtipbhclpeogcmaaDoor.Gauss
