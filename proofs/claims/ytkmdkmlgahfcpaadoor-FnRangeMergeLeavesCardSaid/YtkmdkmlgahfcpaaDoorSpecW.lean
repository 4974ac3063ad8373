/- Roots of a log and of its parts, in plain words. -/
import Derived.Test.YtkmdkmlgahfcpaaDoorLogSW
import Derived.Test.YtkmdkmlgahfcpaaDoorMth
namespace Go.Proofs.YtkmdkmlgahfcpaaDoor.M
open Go Go.RowKit Go.Proofs.YtkmdkmlgahfcpaaDoor.Log Go.Proofs.YtkmdkmlgahfcpaaDoor.Nodes Go.Proofs.YtkmdkmlgahfcpaaDoorW.PrintMore Go.Proofs.YtkmdkmlgahfcpaaDoorW.PrintWords Go.Proofs.YtkmdkmlgahfcpaaDoorW.PrintLast
set_option linter.unusedVariables false
set_option linter.unusedSimpArgs false
variable {k0 k1 k2 k3 k4 k5 : Int}
def Lf (l : List (List Int)) : Nat → List Int := fun i => l.getD i []
theorem Lf_len (l : List (List Int)) (c : Nat) (h : ∀ r ∈ l, r.length ≤ c) (i : Nat) : (Lf l i).length ≤ c := by
  unfold Lf
  rw [List.getD_eq_getElem?_getD]
  cases e : l[i]? with
  | none => simp
  | some r => exact h r (List.mem_of_getElem? e)
theorem mth_len (L : Nat → List Int) (c : Nat) (h : ∀ i, (L i).length ≤ c) : ∀ m b, 0 < m → (mth (hc k0 k2 k5) L b m).length + 9 ≤ m * (c + 9) := by
  intro m
  induction m using Nat.strongRecOn with
  | _ m ih =>
    intro b h0
    by_cases h2 : 2 ≤ m
    · have h3 := sp_lt h2
      have h4 := sp_pos m
      rw [mth_two _ L b m h2]
      have h5 := hc_len k0 k2 k5 (mth (hc k0 k2 k5) L b (sp m)) (mth (hc k0 k2 k5) L (b + sp m) (m - sp m))
      have h6 := ih (sp m) h3 b h4
      have h7 := ih (m - sp m) (by omega) (b + sp m) (by omega)
      have h8 : m * (c + 9) = sp m * (c + 9) + (m - sp m) * (c + 9) := by rw [← Nat.add_mul]; congr 1; omega
      omega
    · rw [mth_one _ L b m (by omega), show m = 1 by omega]
      have := h b
      omega
theorem mth_cong {α : Type} (hc : α → α → α) (L L' : Nat → α) : ∀ n b b', 0 < n → (∀ i, i < n → L (b + i) = L' (b' + i)) → mth hc L b n = mth hc L' b' n := by
  intro n
  induction n using Nat.strongRecOn with
  | _ n ih =>
    intro b b' h0 h
    by_cases h2 : 2 ≤ n
    · have h3 := sp_lt h2
      have h4 := sp_pos n
      rw [mth_two hc L b n h2, mth_two hc L' b' n h2, ih (sp n) h3 b b' h4 (fun i hi => h i (by omega)), ih (n - sp n) (by omega) (b + sp n) (b' + sp n) (by omega) (fun i hi => by rw [Nat.add_assoc, Nat.add_assoc]; exact h _ (by omega))]
    · rw [mth_one hc L b n (by omega), mth_one hc L' b' n (by omega)]
      exact h 0 h0
theorem mth_cut {α : Type} (hc : List Int → List Int → List Int) (l : List (List Int)) (a b : Nat) (h1 : a < b) (h2 : b ≤ l.length) : mth hc (Lf ((l.take b).drop a)) 0 (b - a) = mth hc (Lf l) a (b - a) := by
  refine mth_cong hc _ _ _ _ _ (by omega) (fun t ht => ?_)
  unfold Lf
  rw [List.getD_eq_getElem?_getD, List.getD_eq_getElem?_getD, List.getElem?_drop, List.getElem?_take, if_pos (by omega), Nat.zero_add]
theorem root_ev (c : Nat) : ∀ (n : Nat) (l : List (List Int)), l.length = n → 0 < n → (∀ r ∈ l, r.length ≤ c) → n * (c + 9) ≤ 34359738368 →
    Ev (fun k => spec_Root.f k k0 k1 k2 k3 k4 k5 l) (mth (hc k0 k2 k5) (Lf l) 0 n) := by
  intro n
  induction n using Nat.strongRecOn with
  | _ n ih =>
    intro l hl h0 hc' hb
    have hn : n ≤ 34359738368 := Nat.le_trans (Nat.le_mul_of_pos_right _ (by omega)) hb
    refine Ev.step (fun k => spec_Root.f.eq_2 _ _ _ _ _ _ _ _) ?_
    simp only [hl, if_neg (show ¬ (n : Int) = 0 by omega)]
    by_cases h1 : n = 1
    · subst h1
      simp only [if_pos (show ((1 : Nat) : Int) = 1 from rfl), if_pos (show (0 : Int) < ((1 : Nat) : Int) by decide)]
      rw [mth_one _ _ _ _ (Nat.le_refl _)]
      exact Ev.now _
    · have h2 : 2 ≤ n := by omega
      have h3 := sp_lt h2
      have h4 := sp_pos n
      have t1 : (l.take (sp n)).length = sp n := by rw [List.length_take]; omega
      have t2 : (l.drop (sp n)).length = n - sp n := by rw [List.length_drop]; omega
      have m1 : sp n * (c + 9) ≤ n * (c + 9) := Nat.mul_le_mul_right _ (by omega)
      have m2 : (n - sp n) * (c + 9) ≤ n * (c + 9) := Nat.mul_le_mul_right _ (by omega)
      have E1 := ih (sp n) h3 (l.take (sp n)) t1 h4 (fun r hr => hc' r (List.mem_of_mem_take hr)) (by omega)
      have E2 := ih (n - sp n) (by omega) (l.drop (sp n)) t2 (by omega) (fun r hr => hc' r (List.mem_of_mem_drop hr)) (by omega)
      have c1 : mth (hc k0 k2 k5) (Lf (l.take (sp n))) 0 (sp n) = mth (hc k0 k2 k5) (Lf l) 0 (sp n) := mth_cong _ _ _ _ _ _ h4 (fun i hi => by
        unfold Lf
        rw [List.getD_eq_getElem?_getD, List.getD_eq_getElem?_getD, List.getElem?_take, if_pos (by omega)])
      have c2 : mth (hc k0 k2 k5) (Lf (l.drop (sp n))) 0 (n - sp n) = mth (hc k0 k2 k5) (Lf l) (0 + sp n) (n - sp n) := mth_cong _ _ _ _ _ _ (by omega) (fun i hi => by
        unfold Lf
        rw [List.getD_eq_getElem?_getD, List.getD_eq_getElem?_getD, List.getElem?_drop, Nat.zero_add, Nat.zero_add])
      rw [c1] at E1
      rw [c2] at E2
      have l1 := mth_len (k0 := k0) (k2 := k2) (k5 := k5) (Lf l) c (Lf_len l c hc') (sp n) 0 h4
      have l2 := mth_len (k0 := k0) (k2 := k2) (k5 := k5) (Lf l) c (Lf_len l c hc') (n - sp n) (0 + sp n) (by omega)
      rw [mth_two _ _ _ _ h2]
      generalize mth (hc k0 k2 k5) (Lf l) 0 (sp n) = A at *
      generalize mth (hc k0 k2 k5) (Lf l) (0 + sp n) (n - sp n) = B at *
      simp only [if_neg (show ¬ (n : Int) = 1 by omega), Log.u64_nat n (by omega)]
      refine Ev.bind (split_ev n h2 (by omega)) ?_
      simp only [if_pos (show (0 : Int) ≤ (sp n : Int) by omega), if_pos (show (sp n : Int) ≤ (n : Int) by omega), toNat_cast]
      refine Ev.bind E1 (Ev.bind E2 ?_)
      exact Ev.bind (shash_ev k0 k1 k2 k3 k4 k5 A B (by omega)) (Ev.now _)
theorem rootOf_ev (c : Nat) (l : List (List Int)) (a b : Nat) (h1 : a < b) (h2 : b ≤ l.length) (hc' : ∀ r ∈ l, r.length ≤ c) (hb : l.length * (c + 9) ≤ 34359738368) :
    Ev (fun k => spec_RootOf.f k k0 k1 k2 k3 k4 k5 l (a : Int) (b : Int)) (mth (hc k0 k2 k5) (Lf l) a (b - a)) := by
  unfold spec_RootOf.f
  have t : ((l.take b).drop a).length = b - a := by rw [List.length_drop, List.length_take]; omega
  have m : (b - a) * (c + 9) ≤ l.length * (c + 9) := Nat.mul_le_mul_right _ (by omega)
  have E := root_ev (k0 := k0) (k1 := k1) (k2 := k2) (k3 := k3) (k4 := k4) (k5 := k5) c (b - a) ((l.take b).drop a) t (by omega) (fun r hr => hc' r (List.mem_of_mem_take (List.mem_of_mem_drop hr))) (by omega)
  rw [mth_cut (α := Int) _ _ _ _ h1 h2] at E
  simp only [if_pos (show (0 : Int) ≤ (a : Int) by omega), if_pos (show (a : Int) ≤ (b : Int) by omega), if_pos (show (b : Int) ≤ (l.length : Int) by omega), toNat_cast]
  exact Ev.bind E (Ev.now _)
end Go.Proofs.YtkmdkmlgahfcpaaDoor.M
