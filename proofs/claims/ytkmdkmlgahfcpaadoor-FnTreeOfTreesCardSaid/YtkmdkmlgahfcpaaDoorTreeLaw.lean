/- FnTreeOfTrees: the printed law is true. -/
import Derived.Test.YtkmdkmlgahfcpaaDoorTreeE
namespace Go.Proofs.YtkmdkmlgahfcpaaDoor.M
open Go Go.RowKit Go.Proofs.YtkmdkmlgahfcpaaDoor.Log Go.Proofs.YtkmdkmlgahfcpaaDoor.Nodes Go.Proofs.YtkmdkmlgahfcpaaDoor.Ranges Go.Proofs.YtkmdkmlgahfcpaaDoorW.PrintMore Go.Proofs.YtkmdkmlgahfcpaaDoorW.PrintWords Go.Proofs.YtkmdkmlgahfcpaaDoorW.PrintLast
set_option linter.unusedVariables false
variable {k0 k1 k2 k3 k4 k5 : Int}
theorem mth_congr {α : Type} (hc : α → α → α) (L L' : Nat → α) : ∀ n b b', 0 < n → (∀ i, i < n → L (b + i) = L' (b' + i)) → mth hc L b n = mth hc L' b' n := by
  intro n
  induction n using Nat.strongRecOn with
  | _ n ih =>
    intro b b' h0 h
    by_cases h2 : 2 ≤ n
    · have h3 := sp_lt h2
      have h4 := sp_pos n
      rw [mth_two hc L b n h2, mth_two hc L' b' n h2, ih (sp n) h3 b b' h4 (fun i hi => h i (by omega)), ih (n - sp n) (by omega) (b + sp n) (b' + sp n) (by omega) (fun i hi => by rw [Nat.add_assoc, Nat.add_assoc]; exact h _ (by omega))]
    · rw [mth_one hc L b n (by omega), mth_one hc L' b' n (by omega)]
      exact h 0 h0
theorem shl_small (κ : Nat) (h : κ ≤ 9) : shl .i64 1 (κ : Int) = ((2 ^ κ : Nat) : Int) := by
  have : κ = 0 ∨ κ = 1 ∨ κ = 2 ∨ κ = 3 ∨ κ = 4 ∨ κ = 5 ∨ κ = 6 ∨ κ = 7 ∨ κ = 8 ∨ κ = 9 := by omega
  rcases this with rfl | rfl | rfl | rfl | rfl | rfl | rfl | rfl | rfl | rfl <;> decide
/-- The root of piece i. -/
def piece (k0 k2 k5 : Int) (l : List (List Int)) (κ i : Nat) : List Int := mth (hc k0 k2 k5) (Lf l) (i * 2 ^ κ) (min (2 ^ κ) (l.length - i * 2 ^ κ))
theorem same_text (a : List Int) : spec_SameText.f a a = some true := by simp [spec_SameText.f]
theorem end_ev (l : List (List Int)) (κ i : Nat) (hκ : κ ≤ 9) (hl : ∀ r ∈ l, r.length ≤ 5000) (h0 : 0 < l.length) (hn : l.length ≤ 300) (h1 : i * 2 ^ κ < l.length + 2 ^ κ) (h2 : l.length ≤ i * 2 ^ κ) :
    Ev (fun k => laws_FnTreeOfTrees.l0 k l (κ : Int) ((List.range i).map (piece k0 k2 k5 l κ)) ((i * 2 ^ κ : Nat) : Int) k0 k1 k2 k3 k4 k5) true := by
  have hpk := Nat.two_pow_pos κ
  obtain ⟨R, hR⟩ : ∃ R, R = (List.range i).map (piece k0 k2 k5 l κ) := ⟨_, rfl⟩
  have hRl : R.length = i := by rw [hR]; simp
  have hi0 : 0 < i := by
    rcases Nat.eq_zero_or_pos i with h | h
    · subst h; omega
    · exact h
  obtain ⟨m, rfl⟩ : ∃ m, i = m + 1 := ⟨i - 1, by omega⟩
  have hm1 : m * 2 ^ κ < l.length := by rw [Nat.add_mul] at h1; omega
  have hm2 : m ≤ m * 2 ^ κ := Nat.le_mul_of_pos_right _ hpk
  have hRs : ∀ r ∈ R, r.length ≤ 1502700 := by
    intro r hr
    rw [hR] at hr
    obtain ⟨j, hj, rfl⟩ := List.mem_map.1 hr
    rw [List.mem_range] at hj
    have hj1 : j * 2 ^ κ ≤ m * 2 ^ κ := Nat.mul_le_mul_right _ (by omega)
    have h3 := mth_len (k0 := k0) (k2 := k2) (k5 := k5) (Lf l) 5000 (Lf_len l 5000 hl) (min (2 ^ κ) (l.length - j * 2 ^ κ)) (j * 2 ^ κ) (by omega)
    have h4 : min (2 ^ κ) (l.length - j * 2 ^ κ) * (5000 + 9) ≤ 300 * 5009 := Nat.mul_le_mul_right _ (by omega)
    unfold piece
    omega
  have hq : (l.length + 2 ^ κ - 1) / 2 ^ κ = m + 1 := by
    refine Nat.div_eq_of_lt_le (by omega) ?_
    rw [Nat.add_mul (m + 1)]
    omega
  have heq : mth (hc k0 k2 k5) (Lf R) 0 R.length = mth (hc k0 k2 k5) (Lf l) 0 l.length := by
    have h3 := mth_pieces (hc k0 k2 k5) (Lf l) κ l.length l.length 0 h0 (by omega) (.inr (by omega))
    rw [hq, Nat.zero_mul] at h3
    rw [← h3, hRl]
    refine mth_congr _ _ _ _ _ _ (by omega) (fun t ht => ?_)
    rw [Nat.zero_add, hR]
    unfold Lf
    rw [List.getD_eq_getElem?_getD, List.getElem?_map, List.getElem?_range ht]
    rfl
  rw [← hR]
  refine Ev.step (f := fun k => (impl_TreeRoot.f k k0 k1 k2 k3 k4 k5 l (IntKind.u64.wrap (l.length : Int))).bind fun a => (impl_TreeRoot.f k k0 k1 k2 k3 k4 k5 R (IntKind.u64.wrap (R.length : Int))).bind fun b => if a.2 = true then (if b.2 = true then (spec_SameText.f a.1 b.1).bind fun t => some t else some false) else some false) (fun k => by rw [laws_FnTreeOfTrees.l0, if_neg (by omega)]) ?_
  refine Ev.bind (treeRoot_ev l 5000 hl h0 (by omega) (by omega) (by omega)) ?_
  refine Ev.bind (treeRoot_ev R 1502700 hRs (by omega) (by omega) (by omega) (by omega)) ?_
  refine Ev.congr (f := fun _ => some true) (fun k => ?_) (Ev.now true)
  rw [heq]
  simp [same_text]
theorem loop_ev (l : List (List Int)) (κ : Nat) (hκ : κ ≤ 9) (hl : ∀ r ∈ l, r.length ≤ 5000) (h0 : 0 < l.length) (hn : l.length ≤ 300) : ∀ (d i : Nat), i * 2 ^ κ < l.length + 2 ^ κ → l.length < i * 2 ^ κ + d →
    Ev (fun k => laws_FnTreeOfTrees.l0 k l (κ : Int) ((List.range i).map (piece k0 k2 k5 l κ)) ((i * 2 ^ κ : Nat) : Int) k0 k1 k2 k3 k4 k5) true := by
  have hpk := Nat.two_pow_pos κ
  have hp9 : 2 ^ κ ≤ 2 ^ 9 := Nat.pow_le_pow_right (by decide) hκ
  intro d
  induction d with
  | zero => intro i h1 h2; exact end_ev l κ i hκ hl h0 hn h1 (by omega)
  | succ d ih =>
    intro i h1 h2
    by_cases hlt : i * 2 ^ κ < l.length
    · have hi2 : i ≤ i * 2 ^ κ := Nat.le_mul_of_pos_right _ hpk
      have hnx : (i + 1) * 2 ^ κ = i * 2 ^ κ + 2 ^ κ := by rw [Nat.add_mul, Nat.one_mul]
      have hih := ih (i + 1) (by omega) (by omega)
      have hw : wrap64 (((i * 2 ^ κ : Nat) : Int) + shl .i64 1 (κ : Int)) = (((i + 1) * 2 ^ κ : Nat) : Int) := by
        rw [shl_small κ hκ, hnx]
        generalize i * 2 ^ κ = P at *
        generalize 2 ^ κ = T at *
        unfold wrap64
        omega
      obtain ⟨e, he⟩ : ∃ e, e = min l.length ((i + 1) * 2 ^ κ) := ⟨_, rfl⟩
      have hmn : mn (l.length : Int) (((i + 1) * 2 ^ κ : Nat) : Int) = (e : Int) := by
        unfold mn
        rw [he]
        split <;> omega
      have hpc : (List.range (i + 1)).map (piece k0 k2 k5 l κ) = (List.range i).map (piece k0 k2 k5 l κ) ++ [piece k0 k2 k5 l κ i] := by rw [List.range_succ, List.map_append]; rfl
      rw [hpc] at hih
      obtain ⟨y, hy⟩ : ∃ y, y = (l.take e).drop (i * 2 ^ κ) := ⟨_, rfl⟩
      have hyl : y.length = e - i * 2 ^ κ := by rw [hy, List.length_drop, List.length_take]; omega
      have hroot : mth (hc k0 k2 k5) (Lf y) 0 y.length = piece k0 k2 k5 l κ i := by
        unfold piece
        rw [hyl, show min (2 ^ κ) (l.length - i * 2 ^ κ) = e - i * 2 ^ κ by omega]
        refine mth_congr _ _ _ _ _ _ (by omega) (fun t ht => ?_)
        unfold Lf
        rw [hy, List.getD_eq_getElem?_getD, List.getD_eq_getElem?_getD, List.getElem?_drop, List.getElem?_take, if_pos (by omega), Nat.zero_add]
      have hE := treeRoot_ev (k0 := k0) (k1 := k1) (k2 := k2) (k3 := k3) (k4 := k4) (k5 := k5) y 5000 (fun r hr => hl r (by rw [hy] at hr; exact List.mem_of_mem_take (List.mem_of_mem_drop hr))) (by omega) (by omega) (by omega) (by omega)
      rw [hroot] at hE
      refine Ev.step (f := fun k => (impl_TreeRoot.f k k0 k1 k2 k3 k4 k5 y (IntKind.u64.wrap (y.length : Int))).bind fun a => if a.2 = true then (if ((List.range i).map (piece k0 k2 k5 l κ)).length < 5864062014805 then laws_FnTreeOfTrees.l0 k l (κ : Int) ((List.range i).map (piece k0 k2 k5 l κ) ++ [a.1]) (((i + 1) * 2 ^ κ : Nat) : Int) k0 k1 k2 k3 k4 k5 else none) else some false) (fun k => ?_) ?_
      · rw [laws_FnTreeOfTrees.l0, hw, hmn, if_pos (by omega), if_pos (by omega), if_pos (by omega), if_pos (by omega), if_pos (by omega), Option.bind_some, Int.toNat_natCast, Int.toNat_natCast, ← hy]
      · refine Ev.bind hE ?_
        refine Ev.congr (fun k => by rw [if_pos rfl, if_pos (by simp; omega)]) hih
    · exact end_ev l κ i hκ hl h0 hn h1 (by omega)
theorem treeOfTrees_ev (l : List (List Int)) (a2 : Int) : Ev (fun k => laws_FnTreeOfTrees.f k k0 k1 k2 k3 k4 k5 l a2) true := by
  obtain ⟨r, hr, hrf⟩ := fits_ev l
  unfold laws_FnTreeOfTrees.f
  refine Ev.bind hr ?_
  have hj : ∀ (f : Nat → Option Bool), (∀ k, f k = laws_FnTreeOfTrees.j0 k l a2 true k0 k1 k2 k3 k4 k5) → Ev f true := fun f hf => Ev.congr hf (Ev.step (f := fun _ => some true) (fun k => by rw [laws_FnTreeOfTrees.j0, if_pos rfl]) (Ev.now true))
  by_cases h1 : r = true
  · have hfit := hrf h1
    refine Ev.congr (fun k => if_pos h1) ?_
    by_cases c1 : a2 < 0
    · exact hj _ (fun k => by rw [if_pos c1])
    · by_cases c2 : a2 > 9
      · exact hj _ (fun k => by rw [if_neg c1, if_pos c2])
      · refine Ev.congr (fun k => by rw [if_neg c1, if_neg c2]) ?_
        obtain ⟨t, ht, hts⟩ := small_ev l hfit.1
        refine Ev.bind ht ?_
        by_cases c3 : t = true
        · have hs := hts c3
          refine Ev.congr (fun k => if_pos c3) ?_
          by_cases c4 : l.length = 0
          · exact hj _ (fun k => by rw [show ((l.length : Int) == 0) = true by rw [beq_iff_eq]; omega])
          · refine Ev.step (f := fun k => laws_FnTreeOfTrees.l0 k l a2 [] 0 k0 k1 k2 k3 k4 k5) (fun k => by rw [laws_FnTreeOfTrees.j0, if_neg (by intro e; rw [beq_iff_eq] at e; omega)]) ?_
            obtain ⟨κ, rfl⟩ := Int.eq_ofNat_of_zero_le (by omega : 0 ≤ a2)
            have := loop_ev (k0 := k0) (k1 := k1) (k2 := k2) (k3 := k3) (k4 := k4) (k5 := k5) l κ (by omega) hs.2 (by omega) hs.1 (l.length + 1) 0 (by rw [Nat.zero_mul]; have := Nat.two_pow_pos κ; omega) (by omega)
            simpa using this
        · exact hj _ (fun k => by rw [if_neg c3])
  · exact Ev.congr (fun k => if_neg h1) (Ev.now true)
end Go.Proofs.YtkmdkmlgahfcpaaDoor.M
