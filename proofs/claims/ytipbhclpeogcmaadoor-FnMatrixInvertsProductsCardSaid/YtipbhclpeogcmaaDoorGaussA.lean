/- Systems of linear equations over the field of 256 elements: what elimination keeps, and what it tells at its end. -/
import Derived.Test.YtipbhclpeogcmaaDoorFldE
namespace Go.Proofs.YtipbhclpeogcmaaDoor.Gauss
set_option linter.unusedVariables false
set_option linter.unusedSimpArgs false

/-- A row times a column. -/
def dt (c : Nat) (w z : Nat → E) : E := sm (fun j => ml (w j) (z j)) c
theorem dt_congr {c : Nat} {w w' z z' : Nat → E} (h1 : ∀ j, j < c → w j = w' j) (h2 : ∀ j, j < c → z j = z' j) : dt c w z = dt c w' z' := sm_congr c (fun k hk => by rw [h1 k hk, h2 k hk])
theorem dt_ad (c : Nat) (w v z : Nat → E) : dt c (fun j => ad (w j) (v j)) z = ad (dt c w z) (dt c v z) := by
  unfold dt
  rw [← sm_ad]
  exact sm_congr c (fun k _ => ad_ml _ _ _)
theorem dt_ml (c : Nat) (a : E) (w z : Nat → E) : dt c (fun j => ml a (w j)) z = ml a (dt c w z) := by
  unfold dt
  rw [← sm_ml]
  exact sm_congr c (fun k _ => ml_assoc _ _ _)
theorem dt_ml' (c : Nat) (a : E) (w z : Nat → E) : dt c (fun j => ml (w j) a) z = ml a (dt c w z) := by
  rw [← dt_ml]
  exact dt_congr (fun j _ => ml_comm _ _) (fun _ _ => rfl)
/-- The columns that solve a system of n rows. -/
def Sol (n c : Nat) (W : Nat → Nat → E) (z : Nat → E) : Prop := ∀ i, i < n → dt c (W i) z = 0
def swapR (W : Nat → Nat → E) (r s : Nat) : Nat → Nat → E := fun i => if i = r then W s else if i = s then W r else W i
def scaleR (W : Nat → Nat → E) (r : Nat) (a : E) : Nat → Nat → E := fun i => if i = r then fun j => ml (W r j) a else W i
def addR (W : Nat → Nat → E) (i r : Nat) (a : E) : Nat → Nat → E := fun i' => if i' = i then fun j => ad (W i j) (ml a (W r j)) else W i'
theorem sol_swap {n c r s : Nat} (W : Nat → Nat → E) (hr : r < n) (hs : s < n) (z : Nat → E) : Sol n c (swapR W r s) z ↔ Sol n c W z := by
  constructor
  · intro h i hi
    by_cases e : i = r
    · subst e
      by_cases e2 : s = i
      · subst e2
        have := h s hi
        simpa [swapR] using this
      · have := h s hs
        simpa [swapR, e2] using this
    · by_cases e2 : i = s
      · subst e2
        have := h r hr
        simpa [swapR] using this
      · have := h i hi
        simpa [swapR, e, e2] using this
  · intro h i hi
    unfold swapR
    split
    · exact h s hs
    · split
      · exact h r hr
      · exact h i hi
theorem sol_scale {n c r : Nat} (W : Nat → Nat → E) {a : E} (ha : a ≠ 0) (z : Nat → E) : Sol n c (scaleR W r a) z ↔ Sol n c W z := by
  constructor
  · intro h i hi
    by_cases e : i = r
    · subst e
      have := h i hi
      unfold scaleR at this
      rw [if_pos rfl, dt_ml'] at this
      exact ml_cancel ha this
    · have := h i hi
      simpa [scaleR, e] using this
  · intro h i hi
    unfold scaleR
    split
    · rename_i e
      subst e
      rw [dt_ml', h i hi, ml_zero]
    · exact h i hi
theorem sol_add {n c i r : Nat} (W : Nat → Nat → E) (a : E) (hr : r < n) (hne : i ≠ r) (z : Nat → E) : Sol n c (addR W i r a) z ↔ Sol n c W z := by
  have hrow : (addR W i r a) r = W r := by unfold addR; rw [if_neg (Ne.symm hne)]
  constructor
  · intro h i' hi'
    have hrz : dt c (W r) z = 0 := by have := h r hr; rwa [hrow] at this
    by_cases e : i' = i
    · subst e
      have := h i' hi'
      unfold addR at this
      rw [if_pos rfl, dt_ad, dt_ml, hrz, ml_zero, ad_zero] at this
      exact this
    · have := h i' hi'
      simpa [addR, e] using this
  · intro h i' hi'
    unfold addR
    split
    · rename_i e
      subst e
      rw [dt_ad, dt_ml, h r hr, ml_zero, ad_zero]
      exact h i' hi'
    · exact h i' hi'

/-! ### a matrix times a column; inverses -/
def mv (n : Nat) (A : Nat → Nat → E) (u : Nat → E) (i : Nat) : E := dt n (A i) u
theorem mv_congr {n : Nat} {A : Nat → Nat → E} {u v : Nat → E} (h : ∀ j, j < n → u j = v j) (i : Nat) : mv n A u i = mv n A v i := dt_congr (fun _ _ => rfl) h
theorem mv_congr' {n : Nat} {A B : Nat → Nat → E} {u : Nat → E} {i : Nat} (h : ∀ j, j < n → A i j = B i j) : mv n A u i = mv n B u i := dt_congr h (fun _ _ => rfl)
theorem mv_zero {n : Nat} {A : Nat → Nat → E} {u : Nat → E} (h : ∀ j, j < n → u j = 0) (i : Nat) : mv n A u i = 0 := sm_zero n (fun k hk => by rw [h k hk, ml_zero])
def mm (n : Nat) (A B : Nat → Nat → E) : Nat → Nat → E := fun i j => dt n (A i) (fun k => B k j)
theorem mv_mm (n : Nat) (A B : Nat → Nat → E) (u : Nat → E) (i : Nat) : mv n (mm n A B) u i = mv n A (mv n B u) i := by
  unfold mv mm dt
  have e1 : ∀ j, ml (sm (fun k => ml (A i k) (B k j)) n) (u j) = sm (fun k => ml (A i k) (ml (B k j) (u j))) n := fun j => by
    rw [ml_comm, ← sm_ml]
    exact sm_congr n (fun k _ => by rw [ml_comm, ml_assoc])
  rw [sm_congr n (fun j _ => e1 j), sm_swap]
  exact sm_congr n (fun k _ => sm_ml _ _ n)
/-- X is the inverse of A. -/
def IsInv (n : Nat) (A X : Nat → Nat → E) : Prop := ∀ u t : Nat → E, (∀ i, i < n → mv n A u i = t i) ↔ (∀ i, i < n → u i = mv n X t i)
/-- A is singular. -/
def Sing (n : Nat) (A : Nat → Nat → E) : Prop := ∃ v : Nat → E, (∃ r, r < n ∧ v r ≠ 0) ∧ ∀ i, i < n → mv n A v i = 0
def unitV (j : Nat) : Nat → E := fun k => if k = j then 1 else 0
theorem mv_unit {n : Nat} (A : Nat → Nat → E) {j : Nat} (hj : j < n) (i : Nat) : mv n A (unitV j) i = A i j := by
  unfold mv dt
  rw [sm_one (j := j) n hj (fun k _ hk => by unfold unitV; rw [if_neg hk, ml_zero])]
  unfold unitV
  rw [if_pos rfl, ml_one]
theorem inv_unique {n : Nat} {A X Y : Nat → Nat → E} (h1 : IsInv n A X) (h2 : IsInv n A Y) (i j : Nat) (hi : i < n) (hj : j < n) : X i j = Y i j := by
  have e := (h1 (mv n X (unitV j)) (unitV j)).2 (fun _ _ => rfl)
  have := (h2 (mv n X (unitV j)) (unitV j)).1 e i hi
  rwa [mv_unit X hj, mv_unit Y hj] at this
theorem inv_symm {n : Nat} {A X : Nat → Nat → E} (h : IsInv n A X) : IsInv n X A := fun u t =>
  ⟨fun h1 i hi => ((h t u).2 (fun j hj => (h1 j hj).symm) i hi).symm, fun h1 i hi => ((h t u).1 (fun j hj => (h1 j hj).symm) i hi).symm⟩
theorem inv_mm {n : Nat} {A B X Y : Nat → Nat → E} (h1 : IsInv n A X) (h2 : IsInv n B Y) : IsInv n (mm n A B) (mm n Y X) := fun u t => by
  constructor
  · intro h i hi
    have a1 := (h1 (mv n B u) t).1 (fun j hj => by rw [← mv_mm]; exact h j hj)
    have a2 := (h2 u (mv n X t)).1 a1 i hi
    rw [mv_mm]
    exact a2
  · intro h i hi
    have a1 := (h2 u (mv n X t)).2 (fun j hj => by rw [← mv_mm]; exact h j hj)
    have a2 := (h1 (mv n B u) t).2 a1 i hi
    rw [mv_mm]
    exact a2
theorem inv_not_sing {n : Nat} {A X : Nat → Nat → E} (h : IsInv n A X) : ¬ Sing n A := by
  rintro ⟨v, ⟨r, hr, hv⟩, h0⟩
  have := (h v (fun _ => 0)).1 h0 r hr
  rw [mv_zero (fun _ _ => rfl)] at this
  exact hv this
theorem sing_right {n : Nat} {A B : Nat → Nat → E} (h : Sing n B) : Sing n (mm n A B) := by
  obtain ⟨v, hv, h0⟩ := h
  exact ⟨v, hv, fun i hi => by rw [mv_mm]; exact mv_zero h0 i⟩
theorem sing_left {n : Nat} {A B Y : Nat → Nat → E} (h : Sing n A) (hB : IsInv n B Y) : Sing n (mm n A B) := by
  obtain ⟨v, ⟨r, hr, hv⟩, h0⟩ := h
  have e := (hB (mv n Y v) v).2 (fun _ _ => rfl)
  refine ⟨mv n Y v, ?_, fun i hi => by rw [mv_mm, mv_congr e]; exact h0 i hi⟩
  by_cases hz : ∃ s, s < n ∧ mv n Y v s ≠ 0
  · exact hz
  · exfalso
    have hz' : ∀ s, s < n → mv n Y v s = 0 := fun s hs => Classical.byContradiction fun h1 => hz ⟨s, hs, h1⟩
    have := e r hr
    rw [mv_zero hz'] at this
    exact hv this.symm

/-! ### elimination's beginning and its ends -/
def cat (n : Nat) (u t : Nat → E) : Nat → E := fun j => if j < n then u j else t (j - n)
theorem dt_cat (n : Nat) (w u t : Nat → E) : dt (n + n) w (cat n u t) = ad (dt n w u) (dt n (fun j => w (n + j)) t) := by
  unfold dt
  rw [sm_add]
  congr 1
  · exact sm_congr n (fun k hk => by unfold cat; rw [if_pos hk])
  · refine sm_congr n (fun k hk => ?_)
    unfold cat
    rw [if_neg (by omega), show n + k - n = k by omega]
theorem dt_unit {n : Nat} {w : Nat → E} {i : Nat} (hi : i < n) (hw : ∀ j, j < n → w j = if i = j then 1 else 0) (u : Nat → E) : dt n w u = u i := by
  unfold dt
  rw [sm_one (j := i) n hi (fun k hk hne => by rw [hw k hk, if_neg (Ne.symm hne), zero_ml]), hw i hi, if_pos rfl, one_ml]
/-- The matrix beside the identity. -/
theorem sol_begin {n : Nat} {A W : Nat → Nat → E} (h1 : ∀ i j, i < n → j < n → W i j = A i j) (h2 : ∀ i j, i < n → j < n → W i (n + j) = if i = j then 1 else 0) (u t : Nat → E) :
    Sol n (n + n) W (cat n u t) ↔ ∀ i, i < n → mv n A u i = t i := by
  have e : ∀ i, i < n → dt (n + n) (W i) (cat n u t) = ad (mv n A u i) (t i) := fun i hi => by
    rw [dt_cat, dt_unit hi (h2 i · hi)]
    congr 1
    exact dt_congr (fun j hj => h1 i j hi hj) (fun _ _ => rfl)
  constructor
  · intro h i hi
    have := h i hi
    rw [e i hi] at this
    exact (ad_eq_zero _ _).1 this
  · intro h i hi
    rw [e i hi]
    exact (ad_eq_zero _ _).2 (h i hi)
theorem sol_end {n : Nat} {W : Nat → Nat → E} (h1 : ∀ i j, i < n → j < n → W i j = if i = j then 1 else 0) (u t : Nat → E) :
    Sol n (n + n) W (cat n u t) ↔ ∀ i, i < n → u i = mv n (fun i j => W i (n + j)) t i := by
  have e : ∀ i, i < n → dt (n + n) (W i) (cat n u t) = ad (u i) (mv n (fun i j => W i (n + j)) t i) := fun i hi => by
    rw [dt_cat, dt_unit hi (h1 i · hi)]
    rfl
  constructor
  · intro h i hi
    have := h i hi
    rw [e i hi] at this
    exact (ad_eq_zero _ _).1 this
  · intro h i hi
    rw [e i hi]
    exact (ad_eq_zero _ _).2 (h i hi)
/-- The first r columns are those of a triangle with ones. -/
structure Tri (n r : Nat) (W : Nat → Nat → E) : Prop where
  one : ∀ j, j < r → W j j = 1
  zero : ∀ i j, j < r → j < i → i < n → W i j = 0
theorem stuck {n r : Nat} {W : Nat → Nat → E} (hr : r < n) (hT : Tri n r W) (hz : ∀ i, r ≤ i → i < n → W i r = 0) :
    ∃ u : Nat → E, u r = 1 ∧ (∀ j, r < j → u j = 0) ∧ ∀ i, i < n → mv n W u i = 0 := by
  have main : ∀ d m : Nat, m + d = r → ∃ u : Nat → E, u r = 1 ∧ (∀ j, r < j → u j = 0) ∧ ∀ i, m ≤ i → i < n → mv n W u i = 0 := by
    intro d
    induction d with
    | zero =>
      intro m hm
      obtain rfl : m = r := by omega
      refine ⟨unitV m, by unfold unitV; rw [if_pos rfl], fun j hj => by unfold unitV; rw [if_neg (by omega)], fun i h1 h2 => ?_⟩
      rw [mv_unit W hr, hz i h1 h2]
    | succ d ih =>
      intro m hm
      obtain ⟨u, e1, e2, e3⟩ := ih (m + 1) (by omega)
      have hmn : m < n := by omega
      refine ⟨fun j => if j = m then mv n W (fun j => if j = m then 0 else u j) m else u j, (if_neg (by omega)).trans e1, fun j hj => (if_neg (by omega)).trans (e2 j hj), fun i h1 h2 => ?_⟩
      by_cases e : i = m
      · subst e
        have key : ∀ s : E, mv n W (fun j => if j = i then s else u j) i = ad (mv n W (fun j => if j = i then 0 else u j) i) (ml (W i i) s) := fun s => by
          unfold mv dt
          have e4 : sm (fun j => if j = i then ml (W i i) s else 0) n = ml (W i i) s := by
            rw [sm_one (j := i) n h2 (fun k _ hk => by rw [if_neg hk]), if_pos rfl]
          rw [← e4, ← sm_ad]
          refine sm_congr n (fun k _ => ?_)
          by_cases hk : k = i
          · subst hk; simp only [if_true]; rw [ml_zero, zero_ad]
          · simp only [if_neg hk]; rw [ad_zero]
        rw [key, hT.one i (by omega), one_ml, ad_self]
      · have : mv n W (fun j => if j = m then mv n W (fun j => if j = m then 0 else u j) m else u j) i = mv n W u i := by
          unfold mv dt
          refine sm_congr n (fun k _ => ?_)
          by_cases hk : k = m
          · subst hk; rw [hT.zero i k (by omega) (by omega) h2, zero_ml, zero_ml]
          · simp only [if_neg hk]
        rw [this]
        exact e3 i (by omega) h2
  obtain ⟨u, e1, e2, e3⟩ := main r 0 (by omega)
  exact ⟨u, e1, e2, fun i hi => e3 i (by omega) hi⟩
end Go.Proofs.YtipbhclpeogcmaaDoor.Gauss
