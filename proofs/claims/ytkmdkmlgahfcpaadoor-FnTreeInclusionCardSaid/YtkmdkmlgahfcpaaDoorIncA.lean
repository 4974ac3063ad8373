/- What the tree's audit path is, in plain lists. -/
import Derived.Test.YtkmdkmlgahfcpaaDoorSpecI
import Derived.Test.YtkmdkmlgahfcpaaDoorNodesE
import Derived.Test.YtkmdkmlgahfcpaaDoorPathS
import Derived.Test.YtkmdkmlgahfcpaaDoorTreeLV
namespace Go.Proofs.YtkmdkmlgahfcpaaDoor.M
open Go Go.RowKit Go.Proofs.YtkmdkmlgahfcpaaDoor.Log Go.Proofs.YtkmdkmlgahfcpaaDoor.Nodes Go.Proofs.YtkmdkmlgahfcpaaDoor.Ranges Go.Proofs.YtkmdkmlgahfcpaaDoorW.PrintMore Go.Proofs.YtkmdkmlgahfcpaaDoorW.PrintWords Go.Proofs.YtkmdkmlgahfcpaaDoorW.PrintLast
set_option linter.unusedVariables false
set_option linter.unusedSimpArgs false
theorem rhGo_end (f : List Int → List Int → Option (List Int)) (b e : Nat) : ∀ (rest done : List (List Int)) (i n : Nat), (e ≤ i ∨ e ≤ b) → rest.length < n → rhGo f b e n i done rest = some (done ++ rest)
  | [], done, i, n, h, hn => by
    obtain ⟨m, rfl⟩ : ∃ m, n = m + 1 := ⟨n - 1, by simp at hn; omega⟩
    rw [rhGo, List.append_nil]
  | x :: rest, done, i, n, h, hn => by
    rw [List.length_cons] at hn
    obtain ⟨m, rfl⟩ : ∃ m, n = m + 1 := ⟨n - 1, by omega⟩
    rw [rhGo, if_neg (by omega), rhGo_end f b e rest (done ++ [x]) (i + 1) m (by omega) (by omega), List.append_assoc]
    rfl
theorem rhGo_pre (f : List Int → List Int → Option (List Int)) (b e : Nat) : ∀ (P rest done : List (List Int)) (i n : Nat), i + P.length ≤ b → rhGo f b e (n + P.length) i done (P ++ rest) = rhGo f b e n (i + P.length) (done ++ P) rest
  | [], rest, done, i, n, h => by simp
  | x :: P, rest, done, i, n, h => by
    rw [List.length_cons] at h
    rw [List.length_cons, show n + (P.length + 1) = (n + P.length) + 1 by omega, List.cons_append, rhGo, if_neg (by omega), rhGo_pre f b e P rest (done ++ [x]) (i + 1) n (by omega), List.append_assoc]
    rw [show i + 1 + P.length = i + (P.length + 1) by omega]
    rfl
/-- What the folding of hashes gives. -/
def fU (h : List Int → List Int → List Int) : List Int → List (List Int) → List Int
  | a, [] => a
  | a, x :: l => fU h (h x a) l
theorem fU_snoc (h : List Int → List Int → List Int) (y : List Int) : ∀ (l : List (List Int)) (a : List Int), fU h a (l ++ [y]) = h y (fU h a l)
  | [], a => rfl
  | x :: l, a => fU_snoc h y l (h x a)
theorem fU_foldR (h : List Int → List Int → List Int) (d : List Int) : ∀ (l : List (List Int)) (z : List Int), ∃ a r, (l ++ [z]).reverse = a :: r ∧ fU h a r = foldR h (l ++ [z]) d
  | [], z => ⟨z, [], rfl, rfl⟩
  | x :: l, z => by
    obtain ⟨a, r, h1, h2⟩ := fU_foldR h d l z
    refine ⟨a, r ++ [x], by rw [List.cons_append, List.reverse_cons, h1, List.cons_append], ?_⟩
    rw [fU_snoc, h2]
    cases l with
    | nil => rfl
    | cons y l => rfl
theorem fold_ev {k0 k1 k2 k3 k4 k5 : Int} : ∀ (l : List (List Int)) (a : List Int), a.length + tot l ≤ 70368744177664 →
    Ev (fun k => rhFold (fun l r => impl_toy_HashChildren.f k k0 k1 k2 k3 k4 k5 l r) a l) (fU (hc k0 k2 k5) a l)
  | [], a, h => Ev.now _
  | x :: l, a, h => by
    rw [tot_cons] at h
    have h1 := hash_ev k0 k1 k2 k3 k4 k5 x a (by omega)
    have h2 := hc_len k0 k2 k5 x a
    exact Ev.bind h1 (fold_ev l (hc k0 k2 k5 x a) (by omega))
theorem rhGo_ev {k0 k1 k2 k3 k4 k5 : Int} (P Q r : List (List Int)) (a : List Int) (h : a.length + tot r ≤ 70368744177664) (b e n : Nat) (hb : b = P.length) (he : e = b + (r.length + 1)) (hn : n = P.length + (r.length + 1) + Q.length + 1) :
    Ev (fun k => rhGo (fun l r => impl_toy_HashChildren.f k k0 k1 k2 k3 k4 k5 l r) b e n 0 [] (P ++ (a :: r ++ Q))) (P ++ [fU (hc k0 k2 k5) a r] ++ Q) := by
  subst hb he hn
  refine Ev.congr (g := fun k => rhGo (fun l r => impl_toy_HashChildren.f k k0 k1 k2 k3 k4 k5 l r) P.length (P.length + (r.length + 1)) (P.length + (r.length + 1) + Q.length + 1) 0 [] (P ++ (a :: r ++ Q))) (f := fun k => (rhFold (fun l r => impl_toy_HashChildren.f k k0 k1 k2 k3 k4 k5 l r) a r).bind fun y => some (P ++ [y] ++ Q)) (fun k => ?_) ?_
  · rw [show P.length + (r.length + 1) + Q.length + 1 = (r.length + Q.length + 1) + 1 + P.length by omega, rhGo_pre _ _ _ _ _ _ _ _ (by omega), List.cons_append, rhGo, if_pos (by omega)]
    have e1 : P.length + (r.length + 1) - (0 + P.length) - 1 = r.length := by omega
    rw [e1, List.take_left, List.drop_left]
    congr 1
    funext y
    rw [rhGo_end _ _ _ Q _ _ _ (.inl (Nat.le_refl _)) (by omega), List.nil_append]
  · exact Ev.bind (fold_ev r a h) (Ev.now _)
theorem same_self_loop (L : List (List Int)) (hL : L.length ≤ 2147483647) : ∀ (rest pre : List (List Int)), L = pre ++ rest → Ev (fun k => spec_Same.l0 k L L (L.length : Int) (pre.length : Int)) true
  | [], pre, h => by
    rw [List.append_nil] at h
    subst h
    refine Ev.step (fun k => spec_Same.l0.eq_2 _ _ _ _ _) ?_
    simp only [if_neg (show ¬ (L.length : Int) < (L.length : Int) by omega)]
    exact Ev.now _
  | p :: rest, pre, h => by
    have hlen : L.length = pre.length + (rest.length + 1) := by rw [h, List.length_append, List.length_cons]
    have ih := same_self_loop L hL rest (pre ++ [p]) (by rw [h, List.append_assoc]; rfl)
    rw [List.length_append, List.length_singleton] at ih
    refine Ev.step (fun k => spec_Same.l0.eq_2 _ _ _ _ _) ?_
    simp only [if_pos (show (pre.length : Int) < (L.length : Int) by omega), if_pos (show (0 : Int) ≤ (pre.length : Int) by omega), if_true, Log.wrap_nat pre.length (by omega)]
    exact ih
theorem same_refl (L : List (List Int)) (hL : L.length ≤ 2147483647) : Ev (fun k => spec_Same.f k L L) true := by
  unfold spec_Same.f
  exact Ev.congr (fun k => if_pos rfl) (same_self_loop L hL L [] rfl)
end Go.Proofs.YtkmdkmlgahfcpaaDoor.M
