/- FnRangeAppend: the printed law is true. -/
import Derived.Test.YtkmdkmlgahfcpaaDoorRgQ
import Derived.Test.YtkmdkmlgahfcpaaDoorLogV
import Derived.Test.YtkmdkmlgahfcpaaDoorSizeE
import Derived.OpenShut
namespace Go.Proofs.YtkmdkmlgahfcpaaDoor.M
open Go Go.RowKit Go.Proofs.YtkmdkmlgahfcpaaDoor.Nodes Go.Proofs.YtkmdkmlgahfcpaaDoor.Ranges Go.Proofs.YtkmdkmlgahfcpaaDoorW.PrintWords Go.Proofs.YtkmdkmlgahfcpaaDoorW.PrintLast Go.Proofs.YtkmdkmlgahfcpaaDoorW.PrintMore
set_option linter.unusedVariables false
set_option linter.unusedSimpArgs false
theorem rd_nm {N : List (Nat × Nat)} {L : List (List Int)} (h : N.length = L.length) (i : Nat) (hi : i < L.length) : (rd_T60 (nmV N L) (i : Int)).f1 = rd_L1 L (i : Int) := by
  have hN : i < N.length := by omega
  unfold rd_T60 rd_L1 nmV
  rw [Int.toNat_natCast, List.getD_eq_getElem?_getD, List.getD_eq_getElem?_getD, List.getElem?_eq_getElem hi, List.getElem?_eq_getElem (by rw [List.length_zipWith]; omega), List.getElem_zipWith]
  rfl
theorem rd_take {α : Type} (L : List α) (i : Nat) (hi : i < L.length) (z : α) : L.take i ++ [L.getD i z] = L.take (i + 1) := by
  rw [List.getD_eq_getElem?_getD, List.getElem?_eq_getElem hi, Option.getD_some, List.take_append_getElem]
theorem hashes_ev {N : List (Nat × Nat)} {L : List (List Int)} (h : N.length = L.length) (hL : L.length ≤ 1000) : Ev (fun k => spec_hashes.f k (nmV N L)) L := by
  have hn := nmV_len h
  have key : ∀ d i : Nat, i + d = L.length → Ev (fun k => spec_hashes.l0 k (nmV N L) (L.take i) (L.length : Int) (i : Int)) L := by
    intro d
    induction d with
    | zero =>
      intro i hi
      obtain rfl : i = L.length := by omega
      refine Ev.step (fun k => spec_hashes.l0.eq_2 _ _ _ _ _) ?_
      simp only [if_neg (show ¬ (L.length : Int) < (L.length : Int) by omega), List.take_length]
      exact Ev.now _
    | succ d ih =>
      intro i hi
      refine Ev.step (fun k => spec_hashes.l0.eq_2 _ _ _ _ _) ?_
      have e1 : L.take i ++ [rd_L1 L (i : Int)] = L.take (i + 1) := by unfold rd_L1; rw [Int.toNat_natCast]; exact rd_take L i (by omega) []
      have c1 : (L.take i).length < 5864062014805 := by rw [List.length_take]; omega
      simp only [hn, if_pos (show (i : Int) < (L.length : Int) by omega), if_pos (show (0 : Int) ≤ (i : Int) by omega), rd_nm h i (by omega), e1, if_pos c1, Log.wrap_nat i (by omega)]
      exact ih (i + 1) (by omega)
  unfold spec_hashes.f
  rw [hn]
  exact key L.length 0 (by omega)
theorem nm_take {N : List (Nat × Nat)} {L : List (List Int)} (h : N.length = L.length) (i : Nat) (hi : i < L.length) : nmV (N.take i) (L.take i) ++ [(⟨⟨(rd_T54 (N.map im) (i : Int)).f0, (rd_T54 (N.map im) (i : Int)).f1⟩, rd_L1 L (i : Int)⟩ : S60)] = nmV (N.take (i + 1)) (L.take (i + 1)) := by
  have hN : i < N.length := by omega
  have e1 : rd_T54 (N.map im) (i : Int) = im N[i] := by
    unfold rd_T54
    rw [Int.toNat_natCast, List.getD_eq_getElem?_getD, List.getElem?_map, List.getElem?_eq_getElem hN]
    rfl
  have e2 : rd_L1 L (i : Int) = L[i] := by
    unfold rd_L1
    rw [Int.toNat_natCast, List.getD_eq_getElem?_getD, List.getElem?_eq_getElem hi]
    rfl
  rw [e1, e2, ← List.take_append_getElem hN, ← List.take_append_getElem hi, nmV_append (by rw [List.length_take, List.length_take]; omega)]
  rfl
theorem named_ev {b e : Nat} {N : List (Nat × Nat)} {L : List (List Int)} (hG : G b e N) (he : e < 2 ^ 64) (h : N.length = L.length) (hL : L.length ≤ 1000) : Ev (fun k => spec_Named.f k (b : Int) (e : Int) L) (nmV N L) := by
  have key : ∀ d i : Nat, i + d = L.length → Ev (fun k => spec_Named.l0 k (nmV (N.take i) (L.take i)) (N.map im) (L.length : Int) (i : Int) (b : Int) (e : Int) L) (nmV N L) := by
    intro d
    induction d with
    | zero =>
      intro i hi
      obtain rfl : i = L.length := by omega
      refine Ev.step (fun k => spec_Named.l0.eq_2 _ _ _ _ _ _ _ _) ?_
      have e1 : N.take L.length = N := by rw [← h, List.take_length]
      simp only [if_neg (show ¬ (L.length : Int) < (L.length : Int) by omega), List.take_length, e1]
      exact Ev.now _
    | succ d ih =>
      intro i hi
      refine Ev.step (fun k => spec_Named.l0.eq_2 _ _ _ _ _ _ _ _) ?_
      have c1 : (nmV (N.take i) (L.take i)).length < 3518437208883 := by rw [nmV_len (by rw [List.length_take, List.length_take]; omega), List.length_take]; omega
      simp only [List.length_map, if_pos (show (i : Int) < (L.length : Int) by omega), if_pos (show (0 : Int) ≤ (i : Int) by omega), if_pos (show (i : Int) < (N.length : Int) by omega), nm_take h i (by omega), if_pos c1, Log.wrap_nat i (by omega)]
      exact ih (i + 1) (by omega)
  unfold spec_Named.f
  refine Ev.bind (specNodes_ev hG he (by omega)) ?_
  have := key L.length 0 (by omega)
  rw [List.length_map, h]
  exact this
theorem same_refl (L : List (List Int)) (hL : L.length ≤ 2147483647) : Ev (fun k => spec_Same.f k L L) true := by
  have key : ∀ d i : Nat, i + d = L.length → Ev (fun k => spec_Same.l0 k L L (L.length : Int) (i : Int)) true := by
    intro d
    induction d with
    | zero =>
      intro i hi
      refine Ev.step (fun k => spec_Same.l0.eq_2 _ _ _ _ _) ?_
      simp only [if_neg (show ¬ (i : Int) < (L.length : Int) by omega)]
      exact Ev.now _
    | succ d ih =>
      intro i hi
      refine Ev.step (fun k => spec_Same.l0.eq_2 _ _ _ _ _) ?_
      simp only [if_pos (show (i : Int) < (L.length : Int) by omega), if_pos (show (0 : Int) ≤ (i : Int) by omega), if_true, Log.wrap_nat i (by omega)]
      exact ih (i + 1) (by omega)
  unfold spec_Same.f
  simp only [if_true]
  exact key L.length 0 (by omega)
theorem sameRange_refl (b e : Int) (L : List (List Int)) (hL : L.length ≤ 2147483647) : Ev (fun k => spec_SameRange.f k b e L b e L) true := by
  unfold spec_SameRange.f
  simp only [if_true]
  exact Ev.bind (same_refl L hL) (Ev.now _)
theorem sameVisits_refl (L : List S60) (hL : L.length ≤ 2147483647) : Ev (fun k => spec_SameVisits.f k L L) true := by
  have key : ∀ d i : Nat, i + d = L.length → Ev (fun k => spec_SameVisits.l0 k L L (L.length : Int) (i : Int)) true := by
    intro d
    induction d with
    | zero =>
      intro i hi
      refine Ev.step (fun k => spec_SameVisits.l0.eq_2 _ _ _ _ _) ?_
      simp only [if_neg (show ¬ (i : Int) < (L.length : Int) by omega)]
      exact Ev.now _
    | succ d ih =>
      intro i hi
      refine Ev.step (fun k => spec_SameVisits.l0.eq_2 _ _ _ _ _) ?_
      simp only [if_pos (show (i : Int) < (L.length : Int) by omega), if_pos (show (0 : Int) ≤ (i : Int) by omega), beq_self_eq_true, Bool.not_true, Bool.or_false, Bool.false_eq_true, if_false, if_true, Log.wrap_nat i (by omega)]
      exact ih (i + 1) (by omega)
  unfold spec_SameVisits.f
  simp only [if_true]
  exact key L.length 0 (by omega)
theorem phi_mem : ∀ {L : List (List Int)} {r : List Int}, r ∈ L → r.length ≤ phi L
  | a :: L, r, h => by
    rw [phi_cons]
    rcases List.mem_cons.1 h with rfl | h
    · omega
    · have := phi_mem h; omega
theorem phi_bound : ∀ {L : List (List Int)}, (∀ r ∈ L, r.length ≤ 5000) → phi L ≤ L.length * 5009
  | [], _ => Nat.zero_le _
  | a :: L, h => by
    have h1 := h a (List.mem_cons_self ..)
    have h2 := phi_bound (fun r hr => h r (List.mem_cons_of_mem _ hr))
    rw [phi_cons, List.length_cons]
    omega
theorem fits7_ev (b e : Int) (l : List (List Int)) : ∃ r : Bool, Ev (fun k => laws_zzFits7.f k b e l) r ∧ (r = true → Log.Fit l) := by
  obtain ⟨r, h1, h2⟩ := Log.fits_ev l
  refine ⟨r, ?_, h2⟩
  unfold laws_zzFits7.f
  refine Ev.bind h1 ?_
  cases r with
  | true => exact Ev.now _
  | false => exact Ev.now _
theorem proper_ev (b e : Nat) (he : e < 2 ^ 64) (l : List (List Int)) : ∃ r : Bool, Ev (fun k => spec_ProperRange.f k (b : Int) (e : Int) l) r ∧ (r = true → b ≤ e ∧ ∃ N, G b e N ∧ N.length = l.length ∧ N.length ≤ 128 ∧ compact_RangeSize.f (b : Int) (e : Int) = some (l.length : Int)) := by
  by_cases h : b ≤ e
  · obtain ⟨L, hG, hL, hs⟩ := size_G b e h he
    refine ⟨(l.length : Int) == ((L.map im).length : Int), ?_, fun hr => ?_⟩
    · unfold spec_ProperRange.f
      simp only [if_pos (show (b : Int) ≤ (e : Int) by omega)]
      exact Ev.bind (specNodes_ev hG he (by omega)) (Ev.now _)
    · have := beq_iff_eq.mp hr
      rw [List.length_map] at this
      refine ⟨h, L, hG, by omega, hL, by rw [hs, this]⟩
  · refine ⟨false, ?_, fun h => by simp at h⟩
    unfold spec_ProperRange.f
    simp only [if_neg (show ¬ (b : Int) ≤ (e : Int) by omega)]
    exact Ev.now _
theorem fair_ev (b e : Nat) (he : e < 2 ^ 64) (l : List (List Int)) (hl : Log.Fit l) : ∃ r : Bool, Ev (fun k => laws_rangeFair.f k (b : Int) (e : Int) l) r ∧ (r = true → Log.Small l ∧ b ≤ e ∧ ∃ N, G b e N ∧ N.length = l.length ∧ N.length ≤ 128 ∧ compact_RangeSize.f (b : Int) (e : Int) = some (l.length : Int)) := by
  obtain ⟨r1, g1, f1⟩ := proper_ev b e he l
  obtain ⟨r2, g2, f2⟩ := Log.small_ev l hl.1
  unfold laws_rangeFair.f
  cases r1 with
  | false => exact ⟨false, Ev.bind g1 (Ev.now _), fun h => by cases h⟩
  | true => exact ⟨r2, Ev.bind g1 (Ev.bind g2 (Ev.now _)), fun h => ⟨f2 h, f1 rfl⟩⟩
theorem room_ev (b e : Nat) (he : e < 2 ^ 64) (l m : List (List Int)) (hm : Log.Fit m) : ∃ r : Bool, Ev (fun k => laws_rangeRoom.f k (b : Int) (e : Int) l m) r ∧ (r = true → Log.Small m ∧ e + m.length < 2 ^ 64) := by
  obtain ⟨r2, g2, f2⟩ := Log.small_ev m hm.1
  unfold laws_rangeRoom.f
  cases r2 with
  | false => exact ⟨false, Ev.bind g2 (Ev.now _), fun h => by cases h⟩
  | true =>
    refine ⟨_, Ev.bind g2 (Ev.now _), fun h => ⟨f2 rfl, ?_⟩⟩
    have h := of_decide_eq_true h
    have hs := (f2 rfl).1
    rw [Log.u64_nat m.length (by omega)] at h
    apply Nat.lt_of_not_le
    intro hge
    have e1 : IntKind.u64.wrap ((e : Int) + (m.length : Int)) = (((e + m.length) - 18446744073709551616 : Nat) : Int) := by
      have : ((e : Int) + (m.length : Int)) = (((e + m.length - 18446744073709551616 : Nat) : Int)) + 18446744073709551616 := by omega
      rw [this]
      unfold IntKind.wrap
      simp only [IntKind.signed, IntKind.bits, Bool.false_and, Bool.false_eq_true, if_false]
      omega
    rw [e1] at h
    omega
theorem rangeAppend_ev (a0 a1 a2 a3 a4 a5 : Int) (b e : Int) (l m : List (List Int)) (w1 : (Lit.int .u64 b).wf = true) (w2 : (Lit.int .u64 e).wf = true) : Ev (fun k => laws_FnRangeAppend.f k a0 a1 a2 a3 a4 a5 b e l m) true := by
  have hu : ∀ {a : Int}, (Lit.int .u64 a).wf = true → ∃ n : Nat, a = (n : Int) ∧ n < 18446744073709551616 := fun h => by
    have := bounds_u64 h
    exact ⟨_, (Int.toNat_of_nonneg (by omega)).symm, by omega⟩
  obtain ⟨b, rfl, _⟩ := hu w1
  obtain ⟨e, rfl, he⟩ := hu w2
  have hj0 : Ev (fun k => laws_FnRangeAppend.j0 k m true a0 a1 a2 a3 a4 a5 b e l) true := by
    refine Ev.step (fun k => laws_FnRangeAppend.j0.eq_2 _ _ _ _ _ _ _ _ _ _ _ _) ?_
    simp only [if_true]
    exact Ev.now _
  have hj1 : Ev (fun k => laws_FnRangeAppend.j1 k m true a0 a1 a2 a3 a4 a5 b e l) true := by
    refine Ev.step (fun k => laws_FnRangeAppend.j1.eq_2 _ _ _ _ _ _ _ _ _ _ _ _) ?_
    simp only [if_true]
    exact Ev.now _
  obtain ⟨r1, g1, f1⟩ := fits7_ev (b : Int) (e : Int) l
  unfold laws_FnRangeAppend.f
  refine Ev.bind g1 ?_
  cases r1 with
  | false => simp only [Bool.false_eq_true, if_false]; exact hj0
  | true =>
  simp only [if_true]
  obtain ⟨r2, g2, f2⟩ := Log.fits_ev m
  refine Ev.bind g2 ?_
  cases r2 with
  | false => exact hj0
  | true =>
  refine Ev.step (fun k => laws_FnRangeAppend.j0.eq_2 _ _ _ _ _ _ _ _ _ _ _ _) ?_
  simp only [Bool.not_true, Bool.false_eq_true, if_false]
  obtain ⟨r3, g3, f3⟩ := fair_ev b e he l (f1 rfl)
  refine Ev.bind g3 ?_
  cases r3 with
  | false => simp only [Bool.false_eq_true, if_false]; exact hj1
  | true =>
  simp only [if_true]
  obtain ⟨r4, g4, f4⟩ := room_ev b e he l m (f2 rfl)
  refine Ev.bind g4 ?_
  cases r4 with
  | false => exact hj1
  | true =>
  refine Ev.step (fun k => laws_FnRangeAppend.j1.eq_2 _ _ _ _ _ _ _ _ _ _ _ _) ?_
  simp only [Bool.not_true, Bool.false_eq_true, if_false]
  obtain ⟨hls, hbe, N, hG, hNl, hN, hsz⟩ := f3 rfl
  obtain ⟨hms, hem⟩ := f4 rfl
  have hpl := phi_bound hls.2
  have hpm := phi_bound hms.2
  have hl3 := hls.1
  have hm3 := hms.1
  obtain ⟨N2, L2, vis2, q1, q2, q3, q4, q5, q6, q7⟩ := fold_ev (a0 := a0) (a1 := a1) (a2 := a2) (a3 := a3) (a4 := a4) (a5 := a5) (H := Log.hc a0 a2 a5) (fun x y h => Log.hash_ev a0 a1 a2 a3 a4 a5 x y (by omega)) (fun x y h => Log.shash_ev a0 a1 a2 a3 a4 a5 x y (by omega)) (Log.hc_len a0 a2 a5)
    (fun N L h hL => hashes_ev h hL) (b := b) (m0 := e) (l1 := l) (l2 := m) hm3 m 0 e N l [] rfl (by omega) (by omega) hG hNl.symm hbe hem (by omega) (by omega) (by simp; omega)
  have hA : Ev (fun k => impl_Append.f k a0 a1 a2 a3 a4 a5 (b : Int) (e : Int) l m) ((b : Int), ((e + m.length : Nat) : Int), L2, vis2, true) := by
    unfold impl_Append.f
    refine Ev.bind (Log.texts_ev l (by omega) (fun r hr => by have := hls.2 r hr; omega)) ?_
    simp only [if_pos (show rgNew (b : Int) (e : Int) l from ⟨by omega, hsz, by omega, by omega⟩)]
    refine Ev.bind (Log.texts_ev m (by omega) (fun r hr => by have := hms.2 r hr; omega)) ?_
    rw [Int.toNat_natCast]
    refine Ev.bind q1 ?_
    exact Ev.bind (Log.texts_ev L2 (by omega) (fun r hr => by have := phi_mem hr; omega)) (Ev.now _)
  have hS : Ev (fun k => spec_Appended.f k a0 a1 a2 a3 a4 a5 (b : Int) (e : Int) l m) ((b : Int), ((e + m.length : Nat) : Int), L2, vis2) := by
    unfold spec_Appended.f
    exact Ev.bind (named_ev hG he hNl (by omega)) q2
  refine Ev.bind hA (Ev.bind hS ?_)
  simp only [if_true]
  refine Ev.bind (sameRange_refl _ _ L2 (by omega)) ?_
  simp only [if_true]
  exact Ev.bind (sameVisits_refl vis2 (by omega)) (Ev.now _)
end Go.Proofs.YtkmdkmlgahfcpaaDoor.M
