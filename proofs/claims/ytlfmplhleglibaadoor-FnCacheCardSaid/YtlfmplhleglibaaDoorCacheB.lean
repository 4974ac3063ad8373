/- The cache's tree: a new node, a matrix put into a node; the insertion. -/
import Derived.Test.YtlfmplhleglibaaDoorCacheA
namespace Go.Proofs.YtlfmplhleglibaaDoor.M
open Go Go.RowKit Go.Proofs.YtlfmplhleglibaaDoorW.PrintWords Go.Proofs.YtlfmplhleglibaaDoorW.PrintLast Go.Proofs.YtlfmplhleglibaaDoorW.PrintMore
set_option linter.unusedVariables false
set_option linter.unusedSimpArgs false
def cUpd (T : List Nat → Option CNd) (n : List Nat) (x : CNd) : List Nat → Option CNd := fun s => if s = n then some x else T s
theorem cUpd_same (T : List Nat → Option CNd) (n : List Nat) (x : CNd) : cUpd T n x n = some x := if_pos rfl
theorem cUpd_ne {T : List Nat → Option CNd} {n s : List Nat} (x : CNd) (h : s ≠ n) : cUpd T n x s = T s := if_neg h
theorem snoc_ne_self (p : List Nat) (i : Nat) : p ≠ p ++ [i] := fun h => by
  have := congrArg List.length h
  rw [List.length_append, List.length_singleton] at this
  omega
theorem snoc_inj {s p : List Nat} {j i : Nat} (h : s ++ [j] = p ++ [i]) : s = p ∧ j = i := by
  have h1 := List.append_inj' h rfl
  exact ⟨h1.1, by simpa using h1.2⟩
theorem cTy_snoc (p : List Nat) (i : Nat) : cTy (p ++ [i]) = 52 := by unfold cTy; rw [if_neg (by simp)]
theorem cTy_ne (p : List Nat) : cTy p ≠ 61 ∧ ∀ q, q ∈ 32 :: rowsK.E → q ≠ cTy p := by
  unfold cTy
  split
  · exact ⟨by decide, by decide⟩
  · exact ⟨by decide, by decide⟩
def rowO (n : Nat) : Obj := .cells (Array.replicate n (.pointer none)) 61
def ndO (g n : Nat) : Obj := .cells #[.slice none 0 0, .slice (some ⟨g, 0, none⟩) n n] 52
theorem cache_new {B : Nat} {W : World} {sh : Nat} {T : List Nat → Option CNd} {p : List Nat} {r : CNd} {i : Nat} (hC : Cache B W sh T) (hp : T p = some r) (hi : cPar p ≤ i) (hs : i < sh) (hT : T (p ++ [i]) = none) (hB : B ≤ W.heap.size) :
    Cache B (((W.alloc (rowO (sh - i))).alloc (ndO W.heap.size (sh - i))).setCell ⟨r.c, i - cPar p, none⟩ (.pointer (some ⟨W.heap.size + 1, 0, none⟩))) sh (cUpd T (p ++ [i]) ⟨W.heap.size + 1, W.heap.size, .slice none 0 0, []⟩) := by
  obtain ⟨hrB, cs, hR, hsz, hcs⟩ := hC.ch p r hp
  have hrl := blk_lt hR
  have s1 : (W.alloc (rowO (sh - i))).heap.size = W.heap.size + 1 := Array.size_push _
  have hR2 : ((W.alloc (rowO (sh - i))).alloc (ndO W.heap.size (sh - i))).heap[r.c]? = some (.cells cs 61 (0, 0)) := blk_alloc (blk_alloc hR _) _
  have hlow := cLow_le p
  have old : ∀ {k : Nat} {o : Obj}, W.heap[k]? = some o → k ≠ r.c → (((W.alloc (rowO (sh - i))).alloc (ndO W.heap.size (sh - i))).setCell ⟨r.c, i - cPar p, none⟩ (.pointer (some ⟨W.heap.size + 1, 0, none⟩))).heap[k]? = some o := fun {k o} h hk =>
    (Below.heap_setCell _ _ _ k hk).trans (blk_alloc (blk_alloc h _) _)
  refine ⟨fun s j h => ?_, fun s x h => ?_, fun s x h => ?_, fun s x h => ?_, fun s s' x x' h h' he => ?_, fun s x h hnil => ?_⟩
  · by_cases e1 : s ++ [j] = p ++ [i]
    · obtain ⟨rfl, _⟩ := snoc_inj e1
      rw [cUpd_ne _ (snoc_ne_self s i), hp]
      exact fun h => by cases h
    · rw [cUpd_ne _ e1] at h
      have := hC.pre s j h
      by_cases e2 : s = p ++ [i]
      · rw [e2, cUpd_same]; exact fun h => by cases h
      · rw [cUpd_ne _ e2]; exact this
  · by_cases e2 : s = p ++ [i]
    · subst e2
      rw [cUpd_same] at h
      obtain rfl := Option.some.inj h
      refine ⟨Nat.le_succ_of_le hB, ?_⟩
      rw [cLow_snoc, cTy_snoc]
      refine (Below.heap_setCell _ _ _ _ (show W.heap.size + 1 ≠ r.c by omega)).trans ?_
      have := blk_new (W.alloc (rowO (sh - i))) (ndO W.heap.size (sh - i))
      rw [s1] at this
      exact this
    · rw [cUpd_ne _ e2] at h
      obtain ⟨h1, h2⟩ := hC.nd s x h
      exact ⟨h1, old h2 (blk_ne h2 hR (cTy_ne s).1)⟩
  · by_cases e2 : s = p ++ [i]
    · subst e2
      rw [cUpd_same] at h
      obtain rfl := Option.some.inj h
      refine ⟨hB, Array.replicate (sh - i) (.pointer none), ?_, by rw [Array.size_replicate, cLow_snoc], fun j hj => ?_⟩
      · refine (Below.heap_setCell _ _ _ _ (show W.heap.size ≠ r.c by omega)).trans ?_
        exact blk_alloc (blk_new W (rowO (sh - i))) _
      · rw [cPar_snoc] at hj ⊢
        have e3 : p ++ [i] ++ [i + 1 + j] ≠ p ++ [i] := fun h => snoc_ne_self (p ++ [i]) (i + 1 + j) h.symm
        rw [cUpd_ne _ e3, pre_none hC.pre [i + 1 + j] (p ++ [i]) hT]
        rw [Array.getElem?_replicate, if_pos (by omega)]
        rfl
    · rw [cUpd_ne _ e2] at h
      by_cases e4 : s = p
      · subst e4
        obtain rfl := Option.some.inj (hp.symm.trans h)
        refine ⟨hrB, cs.setIfInBounds (i - cPar s) (.pointer (some ⟨W.heap.size + 1, 0, none⟩)), blk_put hR2 _ _ rfl, by rw [Array.size_setIfInBounds, hsz], fun j hj => ?_⟩
        by_cases e5 : j = i - cPar s
        · subst e5
          rw [show cPar s + (i - cPar s) = i by omega, cUpd_same, Array.getElem?_setIfInBounds, if_pos rfl, if_pos (by omega)]
          rfl
        · have e6 : s ++ [cPar s + j] ≠ s ++ [i] := fun h => by
            have := (snoc_inj h).2
            omega
          rw [cUpd_ne _ e6, Array.getElem?_setIfInBounds, if_neg (Ne.symm e5)]
          exact hcs j hj
      · obtain ⟨h1, cs', h2, h3, h4⟩ := hC.ch s x h
        refine ⟨h1, cs', old h2 (fun h5 => e4 (hC.inj s p x r h hp (.inr h5))), h3, fun j hj => ?_⟩
        have e6 : s ++ [cPar s + j] ≠ p ++ [i] := fun h => e4 (snoc_inj h).1
        rw [cUpd_ne _ e6]
        exact h4 j hj
  · by_cases e2 : s = p ++ [i]
    · subst e2
      rw [cUpd_same] at h
      obtain rfl := Option.some.inj h
      exact Kd.R_nil _ _ _ _ _
    · rw [cUpd_ne _ e2] at h
      exact Kd.R_set (Kd.R_alloc (Kd.R_alloc (hC.mt s x h) _) _) hR2 (by decide) _ _
  · by_cases e2 : s = p ++ [i] <;> by_cases e3 : s' = p ++ [i]
    · rw [e2, e3]
    · subst e2
      rw [cUpd_same] at h
      obtain rfl := Option.some.inj h
      rw [cUpd_ne _ e3] at h'
      have l1 := blk_lt (hC.nd s' x' h').2
      obtain ⟨_, cs', h2, _⟩ := hC.ch s' x' h'
      have l2 := blk_lt h2
      rcases he with he | he <;> simp only at he <;> omega
    · subst e3
      rw [cUpd_same] at h'
      obtain rfl := Option.some.inj h'
      rw [cUpd_ne _ e2] at h
      have l1 := blk_lt (hC.nd s x h).2
      obtain ⟨_, cs', h2, _⟩ := hC.ch s x h
      have l2 := blk_lt h2
      rcases he with he | he <;> simp only at he <;> omega
    · rw [cUpd_ne _ e2] at h
      rw [cUpd_ne _ e3] at h'
      exact hC.inj s s' x x' h h' he
  · by_cases e2 : s = p ++ [i]
    · subst e2
      rw [cUpd_same] at h
      obtain rfl := Option.some.inj h
      rfl
    · rw [cUpd_ne _ e2] at h
      exact hC.nil s x h hnil
theorem cache_set {B : Nat} {W : World} {sh : Nat} {T : List Nat → Option CNd} {n : List Nat} {s : CNd} {v : Value} {m : List (List Int)} (hC : Cache B W sh T) (hn : T n = some s) (hv : rowsK.R 32 W B (fun _ => True) v m) (hm : m ≠ []) :
    Cache B (W.setCell ⟨s.g, 0, none⟩ v) sh (cUpd T n ⟨s.g, s.c, v, m⟩) := by
  obtain ⟨hsB, hG⟩ := hC.nd n s hn
  have hpt : ∀ y, ptrV (cUpd T n ⟨s.g, s.c, v, m⟩ y) = ptrV (T y) := fun y => by
    by_cases e : y = n
    · rw [e, cUpd_same, hn]; rfl
    · rw [cUpd_ne _ e]
  have hsome : ∀ y x, cUpd T n ⟨s.g, s.c, v, m⟩ y = some x → ∃ x', T y = some x' ∧ x'.g = x.g ∧ x'.c = x.c := fun y x h => by
    by_cases e : y = n
    · subst e
      rw [cUpd_same] at h
      obtain rfl := Option.some.inj h
      exact ⟨s, hn, rfl, rfl⟩
    · rw [cUpd_ne _ e] at h
      exact ⟨x, h, rfl, rfl⟩
  refine ⟨fun y j h => ?_, fun y x h => ?_, fun y x h => ?_, fun y x h => ?_, fun y y' x x' h h' he => ?_, fun y x h hnil => ?_⟩
  · by_cases e : y = n
    · rw [e, cUpd_same]; exact fun h => by cases h
    · rw [cUpd_ne _ e]
      refine hC.pre y j ?_
      intro h0
      by_cases e1 : y ++ [j] = n
      · rw [e1, hn] at h0; cases h0
      · rw [cUpd_ne _ e1] at h; exact h h0
  · by_cases e : y = n
    · subst e
      rw [cUpd_same] at h
      obtain rfl := Option.some.inj h
      exact ⟨hsB, blk_put hG 0 v rfl⟩
    · rw [cUpd_ne _ e] at h
      obtain ⟨h1, h2⟩ := hC.nd y x h
      exact ⟨h1, (Below.heap_setCell _ _ _ _ (fun h5 => e (hC.inj y n x s h hn (.inl h5)))).trans h2⟩
  · obtain ⟨x', h0, _, hc⟩ := hsome y x h
    obtain ⟨h1, cs, h2, h3, h4⟩ := hC.ch y x' h0
    rw [hc] at h1 h2
    refine ⟨h1, cs, (Below.heap_setCell _ _ _ _ (fun h5 => ?_)).trans h2, h3, fun j hj => by rw [hpt]; exact h4 j hj⟩
    exact blk_ne hG h2 (cTy_ne n).1 h5.symm
  · by_cases e : y = n
    · subst e
      rw [cUpd_same] at h
      obtain rfl := Option.some.inj h
      exact Kd.R_set hv hG (cTy_ne y).2 _ _
    · rw [cUpd_ne _ e] at h
      exact Kd.R_set (hC.mt y x h) hG (cTy_ne n).2 _ _
  · obtain ⟨z, hz, g1, c1⟩ := hsome y x h
    obtain ⟨z', hz', g2, c2⟩ := hsome y' x' h'
    exact hC.inj y y' z z' hz hz' (by rw [g1, g2, c1, c2]; exact he)
  · by_cases e : y = n
    · subst e
      rw [cUpd_same] at h
      obtain rfl := Option.some.inj h
      exact absurd hnil hm
    · rw [cUpd_ne _ e] at h
      exact hC.nil y x h hnil
end Go.Proofs.YtlfmplhleglibaaDoor.M
