/- Leaves put behind a compact range: the whole loop, in plain lists. -/
import Derived.Test.YtkmdkmlgahfcpaaDoorRgP
namespace Go.Proofs.YtkmdkmlgahfcpaaDoor.M
open Go Go.RowKit Go.Proofs.YtkmdkmlgahfcpaaDoor.Nodes Go.Proofs.YtkmdkmlgahfcpaaDoorW.PrintWords Go.Proofs.YtkmdkmlgahfcpaaDoorW.PrintLast Go.Proofs.YtkmdkmlgahfcpaaDoorW.PrintMore
set_option linter.unusedVariables false
set_option linter.unusedSimpArgs false
theorem rgH_ev {a0 a1 a2 a3 a4 a5 : Int} {H : List Int → List Int → List Int} (hI : ∀ l r, l.length + r.length ≤ 8000000 → Ev (fun k => impl_toy_HashChildren.f k a0 a1 a2 a3 a4 a5 l r) (H l r)) (hH : ∀ l r, (H l r).length ≤ l.length + r.length + 9) (l r : List Int) (h : l.length + r.length ≤ 8000000) :
    Ev (fun k => rgH k a0 a1 a2 a3 a4 a5 l r) (H l r) := by
  unfold rgH
  refine Ev.bind (hI l r h) ?_
  have := hH l r
  rw [if_pos (by omega)]
  exact Ev.now _
theorem phi_cons (a : List Int) (p : List (List Int)) : phi (a :: p) = a.length + 9 + phi p := rfl
theorem nmV_len {N : List (Nat × Nat)} {L : List (List Int)} (h : N.length = L.length) : (nmV N L).length = L.length := by unfold nmV; rw [List.length_zipWith, h, Nat.min_self]
theorem nmV_get {N : List (Nat × Nat)} {L : List (List Int)} (h : N.length = L.length) (i : Nat) (hi : i < L.length) : ((nmV N L)[i]?.map fun v => v.f1) = L[i]? := by
  unfold nmV
  have hN : i < N.length := by omega
  rw [List.getElem?_eq_getElem hi, List.getElem?_eq_getElem (by rw [List.length_zipWith]; omega), List.getElem_zipWith]
  rfl
theorem appL_step (k : Nat) {l2 : List (List Int)} {x8 x9 : List S60} {n i : Int} (a0 a1 a2 a3 a4 a5 b m : Int) (l1 : List (List Int)) (t1 : i < n) (t0 : 0 ≤ i) (t2 : i < (l2.length : Int)) :
    spec_Appended.l0 (k + 1) l2 x8 x9 n i a0 a1 a2 a3 a4 a5 b m l1 = (spec_pushed.f k a0 a1 a2 a3 a4 a5 x8 0 (IntKind.u64.wrap (m + (IntKind.u64.wrap i))) (rd_L1 l2 i)).bind fun bt208 => (if x9.length < 3518437208883 then ((some (x9 ++ [(⟨(⟨0, IntKind.u64.wrap (m + (IntKind.u64.wrap i))⟩ : S54), rd_L1 l2 i⟩ : S60)] : List (S60))).bind fun y214 => (if y214.length + bt208.2.length < 3518437208883 then (spec_Appended.l0 k l2 bt208.1 (y214 ++ bt208.2) n (wrap64 (i + 1)) a0 a1 a2 a3 a4 a5 b m l1) else (none))) else (none)) :=
  (spec_Appended.l0.eq_2 ..).trans ((if_pos t1).trans ((if_pos t0).trans (if_pos t2)))
theorem appL_go {l2 : List (List Int)} {x8 x9 x8' vs : List S60} {n i i' M' : Int} {y : List Int} {a0 a1 a2 a3 a4 a5 b m : Int} {l1 : List (List Int)} {r : Int × Int × List (List Int) × List S60} (t1 : i < n) (t0 : 0 ≤ i) (t2 : i < (l2.length : Int))
    (e1 : IntKind.u64.wrap (m + (IntKind.u64.wrap i)) = M') (e2 : rd_L1 l2 i = y) (e3 : wrap64 (i + 1) = i') (hx : x9.length + vs.length + 1 < 3518437208883) (hp : Ev (fun k => spec_pushed.f k a0 a1 a2 a3 a4 a5 x8 0 M' y) (x8', vs))
    (h : Ev (fun k => spec_Appended.l0 k l2 x8' (x9 ++ [⟨⟨0, M'⟩, y⟩] ++ vs) n i' a0 a1 a2 a3 a4 a5 b m l1) r) : Ev (fun k => spec_Appended.l0 k l2 x8 x9 n i a0 a1 a2 a3 a4 a5 b m l1) r := by
  subst e1 e2 e3
  refine Ev.step (fun k => appL_step k a0 a1 a2 a3 a4 a5 b m l1 t1 t0 t2) (Ev.bind hp ?_)
  have h1 : x9.length < 3518437208883 := by omega
  have h2 : (x9 ++ [(⟨(⟨0, IntKind.u64.wrap (m + (IntKind.u64.wrap i))⟩ : S54), rd_L1 l2 i⟩ : S60)] : List (S60)).length + vs.length < 3518437208883 := by rw [List.length_append, List.length_singleton]; omega
  simp only [if_pos h1, Option.bind_some, if_pos h2]
  exact h
theorem wrap_one {n : Nat} (h : n < 9223372036854775807) : wrap64 ((n : Int) + 1) = ((n + 1 : Nat) : Int) := by unfold wrap64; omega
theorem fold_ev {a0 a1 a2 a3 a4 a5 : Int} {H : List Int → List Int → List Int} (hI : ∀ l r, l.length + r.length ≤ 8000000 → Ev (fun k => impl_toy_HashChildren.f k a0 a1 a2 a3 a4 a5 l r) (H l r)) (hS : ∀ l r, l.length + r.length ≤ 8000000 → Ev (fun k => spec_HashChildren.f k a0 a1 a2 a3 a4 a5 l r) (H l r)) (hH : ∀ l r, (H l r).length ≤ l.length + r.length + 9)
    (hhash : ∀ (N : List (Nat × Nat)) (L : List (List Int)), N.length = L.length → L.length ≤ 1000 → Ev (fun k => spec_hashes.f k (nmV N L)) L)
    {b m0 : Nat} {l1 l2 : List (List Int)} (hl2 : l2.length ≤ 300) :
    ∀ (ys : List (List Int)) (i m : Nat) (N : List (Nat × Nat)) (L : List (List Int)) (vis : List S60), l2.drop i = ys → i + ys.length = l2.length → m = m0 + i → G b m N → L.length = N.length → b ≤ m → m + ys.length < 2 ^ 64 → phi L + phi ys ≤ 4000000 → N.length + ys.length ≤ 700 → vis.length + ys.length * 702 ≤ 600000 →
    ∃ (N2 : List (Nat × Nat)) (L2 : List (List Int)) (vis2 : List S60), Ev (fun k => rgFold k a0 a1 a2 a3 a4 a5 (b : Int) m L vis ys) (m + ys.length, L2, vis2)
      ∧ Ev (fun k => spec_Appended.l0 k l2 (nmV N L) vis (l2.length : Int) (i : Int) a0 a1 a2 a3 a4 a5 (b : Int) (m0 : Int) l1) ((b : Int), ((m + ys.length : Nat) : Int), L2, vis2) ∧ G b (m + ys.length) N2 ∧ L2.length = N2.length ∧ N2.length ≤ 700 ∧ phi L2 ≤ 4000000 ∧ vis2.length ≤ 600000 := by
  intro ys
  induction ys with
  | nil =>
    intro i m N L vis hdr hil hm hG hLN hb hme hP hN hV
    rw [List.length_nil, Nat.add_zero] at hil
    refine ⟨N, L, vis, Ev.congr (f := fun _ => some (m, L, vis)) (fun k => rfl) (Ev.now _), ?_, hG, hLN, by simpa using hN, by have : phi [] = 0 := rfl; omega, by simpa using hV⟩
    refine Ev.step (fun k => by rw [spec_Appended.l0, if_neg (by omega)]) ?_
    refine Ev.bind (hhash N L hLN.symm (by simp at hN; omega)) ?_
    have e1 : IntKind.u64.wrap (l2.length : Int) = (l2.length : Int) := u64_fit _ (by omega) (by omega)
    have e2 : IntKind.u64.wrap ((m0 : Int) + (l2.length : Int)) = ((m + ([] : List (List Int)).length : Nat) : Int) := (u64_fit _ (by omega) (by simp at hme; omega)).trans (by simp; omega)
    rw [e1, e2]
    exact Ev.now _
  | cons y ys ih =>
    intro i m N L vis hdr hil hm hG hLN hb hme hP hN hV
    rw [List.length_cons] at hil hme hN hV
    rw [phi_cons] at hP
    have hy : rd_L1 l2 (i : Int) = y := by
      have h1 : l2[i]? = some y := by rw [← List.head?_drop, hdr]; rfl
      show l2.getD (i : Int).toNat [] = y
      rw [Int.toNat_natCast, List.getD_eq_getElem?_getD, h1]
      rfl
    obtain ⟨d, N2, L2, vs, p1, p2, p3, p4, ⟨K, p5⟩, p6, p7, p8, p9, p10⟩ := merge_ev (hcI := fun k l r => rgH k a0 a1 a2 a3 a4 a5 l r) (hcS := fun k l r => spec_HashChildren.f k a0 a1 a2 a3 a4 a5 l r) (fun l r h => rgH_ev hI hH l r h) hS hH b N.length N L 0 m y [] rfl hLN (by rw [Nat.pow_zero, Nat.mul_one]; exact hG) (by omega) (by omega) (by simp; omega)
    rw [Nat.pow_zero, Nat.mul_one] at p6
    simp only [Nat.zero_add] at p2 p3
    have hAp := rgApp_ev (vis := vis ++ [⟨⟨0, (m : Int)⟩, y⟩]) hb (by omega) (by omega) (by omega) (by simp; omega) p2 p3 (p4 _)
    obtain ⟨N3, L3, vis3, q1, q2, q3, q4, q5, q6, q7⟩ := ih (i + 1) (m + 1) N2 L2 (vis ++ [⟨⟨0, (m : Int)⟩, y⟩] ++ vs) (by rw [← List.drop_drop, hdr]; rfl) (by omega) (by omega) p6 p7 (by omega) (by omega) (by omega) (by omega) (by simp; omega)
    have em : m + 1 + ys.length = m + (y :: ys).length := by rw [List.length_cons]; omega
    rw [em] at q1 q2 q3
    refine ⟨N3, L3, vis3, ?_, ?_, q3, q4, q5, q6, q7⟩
    · refine Ev.congr (f := fun k => (rgApp k a0 a1 a2 a3 a4 a5 (b : Int) m ((m + 1 : Nat) : Int) L y [] (vis ++ [⟨⟨0, (m : Int)⟩, y⟩])).bind fun r => rgFold k a0 a1 a2 a3 a4 a5 (b : Int) (m + 1) r.1 r.2 ys) (fun k => by rw [rgFold, if_pos ⟨by omega, by omega, by omega⟩]) ?_
      exact Ev.bind hAp q1
    · have t1 : (i : Int) < (l2.length : Int) := Int.ofNat_lt.mpr (by omega)
      have hx : vis.length + vs.length + 1 < 3518437208883 := by clear q1 q2 hAp p5 p4 ih; omega
      have hlt : (nmV N L).length < 1000000 := by rw [nmV_len hLN.symm]; clear q1 q2 hAp p5 p4 ih; omega
      have hi64 : (i : Int) < 18446744073709551616 := by clear q1 q2 hAp p5 p4 ih; omega
      have hm64 : (m0 : Int) + (i : Int) < 18446744073709551616 := by clear q1 q2 hAp p5 p4 ih; omega
      have hmi : (m0 : Int) + (i : Int) = (m : Int) := by rw [hm]; exact (Int.natCast_add ..).symm
      have hi63 : i < 9223372036854775807 := by clear q1 q2 hAp p5 p4 ih; omega
      have hpush : Ev (fun k => spec_pushed.f k a0 a1 a2 a3 a4 a5 (nmV N L) 0 (m : Int) y) (nmV N2 L2, vs) :=
        ⟨K, fun k hk => (if_pos hlt).trans (p5 k k hk hk)⟩
      exact appL_go t1 (Int.natCast_nonneg i) t1 ((congrArg (fun z => IntKind.u64.wrap ((m0 : Int) + z)) (u64_fit _ (Int.natCast_nonneg i) hi64)).trans ((u64_fit _ (hmi ▸ Int.natCast_nonneg m) hm64).trans hmi)) hy (wrap_one hi63) hx hpush q2

end Go.Proofs.YtkmdkmlgahfcpaaDoor.M
