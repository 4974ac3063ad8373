/- What each step of elimination keeps: a triangle with ones, then the identity. -/
import Derived.Test.YtipbhclpeogcmaaDoorGaussB
namespace Go.Proofs.YtipbhclpeogcmaaDoor.Gauss
open Go.Proofs.YtipbhclpeogcmaaDoor.MatM Go.Proofs.YtipbhclpeogcmaaDoor.Field
set_option linter.unusedVariables false
set_option linter.unusedSimpArgs false

theorem Tri.nil (n : Nat) (W : Nat → Nat → E) : Tri n 0 W := ⟨fun j h => by omega, fun i j h => by omega⟩
theorem Tri.swap {n r a b : Nat} {W : Nat → Nat → E} (h : Tri n r W) (ha : r ≤ a) (hb : r ≤ b) (ha2 : a < n) (hb2 : b < n) : Tri n r (swapR W a b) := by
  constructor
  · intro j hj
    unfold swapR
    rw [if_neg (by omega), if_neg (by omega)]
    exact h.one j hj
  · intro i j hj hji hi
    unfold swapR
    split
    · exact h.zero b j hj (by omega) hb2
    · split
      · exact h.zero a j hj (by omega) ha2
      · exact h.zero i j hj hji hi
theorem Tri.scale {n r : Nat} {W : Nat → Nat → E} (h : Tri n r W) (hr : r < n) (a : E) : Tri n r (scaleR W r a) := by
  constructor
  · intro j hj
    unfold scaleR
    rw [if_neg (by omega)]
    exact h.one j hj
  · intro i j hj hji hi
    unfold scaleR
    split
    · rename_i e
      subst e
      try dsimp only
      rw [h.zero i j hj hji hi, zero_ml]
    · exact h.zero i j hj hji hi
/-- Below the diagonal, column r is clear up to row i. -/
structure Low (n r i : Nat) (W : Nat → Nat → E) : Prop where
  tri : Tri n r W
  dia : W r r = 1
  clr : ∀ i', r < i' → i' < i → W i' r = 0
theorem Low.start {n r : Nat} {W : Nat → Nat → E} (h : Tri n r W) (h1 : W r r = 1) : Low n r (r + 1) W := ⟨h, h1, fun i' h2 h3 => by omega⟩
theorem Low.keep {n r i : Nat} {W : Nat → Nat → E} (h : Low n r i W) (h0 : W i r = 0) : Low n r (i + 1) W :=
  ⟨h.tri, h.dia, fun i' h1 h2 => by
    by_cases e : i' = i
    · subst e; exact h0
    · exact h.clr i' h1 (by omega)⟩
theorem Low.step {n r i : Nat} {W : Nat → Nat → E} (h : Low n r i W) (hr : r < i) (hi : i < n) : Low n r (i + 1) (addR W i r (W i r)) := by
  refine ⟨⟨?_, ?_⟩, ?_, ?_⟩
  · intro j hj
    unfold addR
    rw [if_neg (by omega)]
    exact h.tri.one j hj
  · intro i' j hj hji hi'
    unfold addR
    split
    · rename_i e
      subst e
      try dsimp only
      rw [h.tri.zero i' j hj hji hi', h.tri.zero r j hj hj (by omega), ml_zero, ad_zero]
    · exact h.tri.zero i' j hj hji hi'
  · unfold addR
    rw [if_neg (by omega)]
    exact h.dia
  · intro i' h1 h2
    unfold addR
    split
    · rename_i e
      subst e
      try dsimp only
      rw [h.dia, ml_one, ad_self]
    · exact h.clr i' h1 (by omega)
theorem Low.done {n r : Nat} {W : Nat → Nat → E} (h : Low n r n W) : Tri n (r + 1) W :=
  ⟨fun j hj => by
    by_cases e : j = r
    · subst e; exact h.dia
    · exact h.tri.one j (by omega),
   fun i j hj hji hi => by
    by_cases e : j = r
    · subst e; exact h.clr i hji hi
    · exact h.tri.zero i j (by omega) hji hi⟩
/-- Above the diagonal, the columns ahead of d are those of the identity, column d is clear up to row i. -/
structure Upp (n d i : Nat) (W : Nat → Nat → E) : Prop where
  tri : Tri n n W
  idc : ∀ j, j < d → ∀ i', i' < n → W i' j = if i' = j then 1 else 0
  clr : ∀ i', i' < i → W i' d = 0
theorem Upp.start {n : Nat} {W : Nat → Nat → E} (h : Tri n n W) : Upp n 0 0 W := ⟨h, fun j h => by omega, fun i' h => by omega⟩
theorem Upp.keep {n d i : Nat} {W : Nat → Nat → E} (h : Upp n d i W) (h0 : W i d = 0) : Upp n d (i + 1) W :=
  ⟨h.tri, h.idc, fun i' h2 => by
    by_cases e : i' = i
    · subst e; exact h0
    · exact h.clr i' (by omega)⟩
theorem Upp.step {n d i : Nat} {W : Nat → Nat → E} (h : Upp n d i W) (hi : i < d) (hd : d < n) : Upp n d (i + 1) (addR W i d (W i d)) := by
  have hdj : ∀ j, j < d → W d j = 0 := fun j hj => h.tri.zero d j (by omega) hj hd
  refine ⟨⟨?_, ?_⟩, ?_, ?_⟩
  · intro j hj
    unfold addR
    split
    · rename_i e
      subst e
      try dsimp only
      rw [hdj j hi, ml_zero, ad_zero]
      exact h.tri.one j hj
    · exact h.tri.one j hj
  · intro i' j hj hji hi'
    unfold addR
    split
    · rename_i e
      subst e
      try dsimp only
      rw [hdj j (by omega), ml_zero, ad_zero]
      exact h.tri.zero i' j hj hji hi'
    · exact h.tri.zero i' j hj hji hi'
  · intro j hj i' hi'
    unfold addR
    split
    · rename_i e
      subst e
      try dsimp only
      rw [hdj j hj, ml_zero, ad_zero]
      exact h.idc j hj i' hi'
    · exact h.idc j hj i' hi'
  · intro i' h2
    unfold addR
    split
    · rename_i e
      subst e
      try dsimp only
      rw [h.tri.one d hd, ml_one, ad_self]
    · exact h.clr i' (by omega)
theorem Upp.done {n d : Nat} {W : Nat → Nat → E} (h : Upp n d d W) (hd : d < n) : Upp n (d + 1) 0 W :=
  ⟨h.tri, fun j hj i' hi' => by
    by_cases e : j = d
    · subst e
      by_cases e2 : i' = j
      · subst e2; rw [if_pos rfl]; exact h.tri.one i' hd
      · rw [if_neg e2]
        by_cases e3 : i' < j
        · exact h.clr i' e3
        · exact h.tri.zero i' j hd (by omega) hi'
    · exact h.idc j (by omega) i' hi', fun i' h2 => by omega⟩
theorem Upp.ends {n i : Nat} {W : Nat → Nat → E} (h : Upp n n i W) : ∀ i j, i < n → j < n → W i j = if i = j then 1 else 0 := fun i j hi hj => h.idc j hj i hi
/-- The same solutions as the matrix at the beginning. -/
def Eqv (n c : Nat) (W0 W : Nat → Nat → E) : Prop := ∀ z, Sol n c W z ↔ Sol n c W0 z
theorem Eqv.refl (n c : Nat) (W : Nat → Nat → E) : Eqv n c W W := fun _ => Iff.rfl
theorem Eqv.swap {n c r s : Nat} {W0 W : Nat → Nat → E} (h : Eqv n c W0 W) (hr : r < n) (hs : s < n) : Eqv n c W0 (swapR W r s) := fun z => (sol_swap W hr hs z).trans (h z)
theorem Eqv.scale {n c r : Nat} {W0 W : Nat → Nat → E} {a : E} (h : Eqv n c W0 W) (ha : a ≠ 0) : Eqv n c W0 (scaleR W r a) := fun z => (sol_scale W ha z).trans (h z)
theorem Eqv.add {n c i r : Nat} {W0 W : Nat → Nat → E} {a : E} (h : Eqv n c W0 W) (hr : r < n) (hne : i ≠ r) : Eqv n c W0 (addR W i r a) := fun z => (sol_add W a hr hne z).trans (h z)
/-- What elimination of a matrix beside the identity tells. -/
theorem tells_inverse {n : Nat} {A W0 W : Nat → Nat → E} (h1 : ∀ i j, i < n → j < n → W0 i j = A i j) (h2 : ∀ i j, i < n → j < n → W0 i (n + j) = if i = j then 1 else 0) (he : Eqv n (n + n) W0 W)
    (hI : ∀ i j, i < n → j < n → W i j = if i = j then 1 else 0) : IsInv n A (fun i j => W i (n + j)) := fun u t =>
  (sol_begin h1 h2 u t).symm.trans ((he _).symm.trans (sol_end hI u t))
theorem tells_singular {n r : Nat} {A W0 W : Nat → Nat → E} (h1 : ∀ i j, i < n → j < n → W0 i j = A i j) (h2 : ∀ i j, i < n → j < n → W0 i (n + j) = if i = j then 1 else 0) (he : Eqv n (n + n) W0 W)
    (hr : r < n) (hT : Tri n r W) (hz : ∀ i, r ≤ i → i < n → W i r = 0) : Sing n A := by
  obtain ⟨u, e1, e2, e3⟩ := stuck hr hT hz
  refine ⟨u, ⟨r, hr, by rw [e1]; decide⟩, (sol_begin h1 h2 u (fun _ => 0)).1 ((he _).1 fun i hi => ?_)⟩
  rw [dt_cat]
  have a1 : dt n (W i) u = 0 := e3 i hi
  have a2 : dt n (fun j => W i (n + j)) (fun _ => 0) = 0 := sm_zero n (fun k _ => ml_zero _)
  rw [a1, a2, ad_zero]
end Go.Proofs.YtipbhclpeogcmaaDoor.Gauss
