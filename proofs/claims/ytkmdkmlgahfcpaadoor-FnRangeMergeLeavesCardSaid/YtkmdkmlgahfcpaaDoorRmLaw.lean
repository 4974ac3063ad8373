/- FnRangeMergeLeaves: the law is true. -/
import Derived.Test.YtkmdkmlgahfcpaaDoorRmR
import Derived.OpenShut
namespace Go.Proofs.YtkmdkmlgahfcpaaDoor.M
open Go Go.RowKit Go.Proofs.YtkmdkmlgahfcpaaDoor.Nodes Go.Proofs.YtkmdkmlgahfcpaaDoor.Ranges Go.Proofs.YtkmdkmlgahfcpaaDoor.Log Go.Proofs.YtkmdkmlgahfcpaaDoorW.PrintWords Go.Proofs.YtkmdkmlgahfcpaaDoorW.PrintLast Go.Proofs.YtkmdkmlgahfcpaaDoorW.PrintMore
set_option linter.unusedVariables false
set_option linter.unusedSimpArgs false
theorem parent_eq (l i : Nat) (hl : l < 63) : impl_Parent.f (l : Int) (i : Int) = some (((l + 1 : Nat) : Int), ((i / 2 : Nat) : Int)) := by
  unfold impl_Parent.f impl_toNode.f impl_fromNode.f compact_NodeID_Parent.f compact_NewNodeID.f
  simp only [Option.bind_some]
  rw [show ((l : Int) + 1) = ((l + 1 : Nat) : Int) from by omega, Log.u64_nat _ (by omega), show ((i : Int) / 2) = ((i / 2 : Nat) : Int) from by omega]
theorem fits_end {b e m : Nat} : ∀ n, Fits b e m 0 → ¬ Fits b e m n → ∃ D, D < n ∧ Fits b e m D ∧ ¬ Fits b e m (D + 1)
  | 0, h0, hn => absurd h0 hn
  | n + 1, h0, hn => by
    by_cases h : Fits b e m n
    · exact ⟨n, Nat.lt_succ_self _, h, hn⟩
    · obtain ⟨D, h1, h2⟩ := fits_end n h0 h
      exact ⟨D, by omega, h2⟩
/-- The loop's end: the first node that is not in the range. -/
theorem leaves_out {b e m h : Nat} (hm : m < 2 ^ 64) (h1 : 0 < h) (h9 : h < 64) (hno : ¬ Fits b e m h) : ∃ p1 p2 : Int, spec_Leaves.f (h : Int) ((m / 2 ^ h : Nat) : Int) = some (p1, p2) ∧ (p1 < (b : Int) ∨ p2 > (e : Int) ∨ p2 ≤ p1) := by
  have hp := pow_pos h
  have hx : m / 2 ^ h * 2 ^ h ≤ m := Nat.div_mul_le_self _ _
  have hx1 : m / 2 ^ h + 1 < 18446744073709551616 := by
    have : m / 2 ^ h ≤ m / 2 := by
      have h2 : 2 ^ 1 ≤ 2 ^ h := pow_mono h1
      exact Nat.div_le_div_left h2 (by decide)
    omega
  have e1 : IntKind.u64.wrap (((m / 2 ^ h : Nat) : Int) + 1) = ((m / 2 ^ h + 1 : Nat) : Int) := Log.u64_nat _ hx1
  have s1 := shl_u64 (m / 2 ^ h) h (Nat.le_of_lt h9) (Nat.lt_of_le_of_lt hx hm)
  have hle : (m / 2 ^ h + 1) * 2 ^ h ≤ 2 ^ 64 := by
    have h2 : 2 ^ 64 = 2 ^ (64 - h) * 2 ^ h := by rw [← Nat.pow_add]; congr 1; omega
    rw [h2]
    refine Nat.mul_le_mul_right _ ?_
    have h3 : m / 2 ^ h < 2 ^ (64 - h) := by
      apply (Nat.div_lt_iff_lt_mul hp).2
      rw [← h2]
      exact hm
    exact h3
  by_cases h64 : (m / 2 ^ h + 1) * 2 ^ h < 2 ^ 64
  · have s2 := shl_u64 (m / 2 ^ h + 1) h (Nat.le_of_lt h9) h64
    refine ⟨_, _, by unfold spec_Leaves.f; rw [if_pos (Int.natCast_nonneg h), e1, s1, s2], ?_⟩
    unfold Fits at hno
    by_cases c1 : b ≤ m / 2 ^ h * 2 ^ h
    · refine .inr (.inl (Int.ofNat_lt.mpr (Nat.lt_of_not_le (fun c2 => hno ⟨c1, c2⟩))))
    · exact .inl (Int.ofNat_lt.mpr (Nat.lt_of_not_le c1))
  · have s2 : shl .u64 ((m / 2 ^ h + 1 : Nat) : Int) (h : Int) = 0 := by
      unfold shl
      rw [Int.toNat_natCast, show IntKind.bits .u64 = 64 from rfl, Nat.min_eq_left (Nat.le_of_lt h9)]
      have e2 : (((m / 2 ^ h + 1 : Nat) : Int) * 2 ^ h) = (((m / 2 ^ h + 1) * 2 ^ h : Nat) : Int) := by simp
      rw [e2, Nat.le_antisymm hle (Nat.le_of_not_lt h64)]
      decide
    refine ⟨_, _, by unfold spec_Leaves.f; rw [if_pos (Int.natCast_nonneg h), e1, s1, s2], ?_⟩
    exact .inr (.inr (Int.natCast_nonneg _))
theorem shV_at (k0 k2 k5 : Int) (l : List (List Int)) (b m lo c : Nat) : shV k0 k2 k5 l b lo (m / 2 ^ lo) c = rgMk (lo + c + 1) (m / 2 ^ (lo + c + 1)) (Tn k0 k2 k5 l b (lo + c + 1, m / 2 ^ (lo + c + 1))) := by
  unfold shV
  rw [Nat.div_div_eq_div_mul, ← Nat.pow_add, show lo + (c + 1) = lo + c + 1 by omega]
theorem loop_ev {a0 a1 a2 a3 a4 a5 : Int} {l : List (List Int)} {b m e lo d D : Nat} (hl : ∀ r ∈ l, r.length ≤ 5000) (hll : e = b + l.length) (hbe : l.length ≤ 300) (hb : b ≤ m) (hme : m < e) (he : e < 2 ^ 64) (hdv : 2 ^ lo ∣ m) (hodd : m / 2 ^ lo % 2 = 1)
    (hD9 : D < 9) (hD : Fits b e m D) (hD1 : ¬ Fits b e m (D + 1)) (hd : d = D - lo) : ∀ (n h : Nat), h + n = D + 1 →
    ∃ K, ∀ k q, K ≤ k → K ≤ q → mlL k a0 a1 a2 a3 a4 a5 (b : Int) (m : Int) (e : Int) l (Vs_ a0 a2 a5 l b m lo d) q ((h - (lo + 1) : Nat) : Int) (h : Int) ((m / 2 ^ h : Nat) : Int) = some true := by
  have hvl : (Vs_ a0 a2 a5 l b m lo d).length = d := by unfold Vs_; rw [List.length_map, List.length_range]
  intro n
  induction n with
  | zero =>
    intro h hh
    rw [Nat.add_zero] at hh
    subst hh
    refine ⟨1, fun k q _ hq => ?_⟩
    obtain ⟨q, rfl⟩ : ∃ q', q = q' + 1 := ⟨q - 1, by omega⟩
    obtain ⟨p1, p2, hlv, hout⟩ := leaves_out (b := b) (e := e) (by omega) (Nat.succ_pos D) (by omega) hD1
    rw [mlL, if_pos (by omega), hlv, Option.bind_some]
    dsimp only
    rw [if_pos hout, hvl, hd, show D + 1 - (lo + 1) = D - lo by omega, beq_self_eq_true]
  | succ n ih =>
    intro h hh
    obtain ⟨K, hK⟩ := ih (h + 1) (by omega)
    have hF : Fits b e m h := hD.le (by omega)
    obtain ⟨hf1, hf2⟩ := hF
    have hlv := leaves_eq hf2 he
    have hp := pow_pos h
    have hx : m / 2 ^ h * 2 ^ h ≤ m := Nat.div_mul_le_self _ _
    have hnb : ¬ (((m / 2 ^ h * 2 ^ h : Nat) : Int) < (b : Int) ∨ (((m / 2 ^ h + 1) * 2 ^ h : Nat) : Int) > (e : Int) ∨ (((m / 2 ^ h + 1) * 2 ^ h : Nat) : Int) ≤ ((m / 2 ^ h * 2 ^ h : Nat) : Int)) := by
      rintro (h1 | h1 | h1)
      · exact absurd (Int.ofNat_lt.mp h1) (Nat.not_lt.mpr hf1)
      · exact absurd (Int.ofNat_lt.mp h1) (Nat.not_lt.mpr hf2)
      · have h2 := Int.ofNat_le.mp h1
        rw [Nat.add_mul, Nat.one_mul] at h2
        omega
    have hpar := parent_eq h (m / 2 ^ h) (by omega)
    rw [← div_up] at hpar
    by_cases hlo : h ≤ lo
    · have hdh : 2 ^ h ∣ m := pow_dvd hlo hdv
      have hmm : m / 2 ^ h * 2 ^ h = m := Nat.div_mul_cancel hdh
      refine ⟨K + 1, fun k q hk hq => ?_⟩
      obtain ⟨q, rfl⟩ : ∃ q', q = q' + 1 := ⟨q - 1, by omega⟩
      have := hK k q (by omega) (by omega)
      rw [show h + 1 - (lo + 1) = h - (lo + 1) by omega] at this
      rw [mlL, if_pos (by omega), hlv, Option.bind_some]
      dsimp only
      rw [if_neg hnb, if_pos (by rw [hmm]; exact Int.le_refl _), hpar, Option.bind_some]
      exact this
    · have hndv : ¬ 2 ^ h ∣ m := fun hd => hlo (lev_le hodd hdv hd)
      have hlt : m / 2 ^ h * 2 ^ h < m := Nat.lt_of_le_of_ne hx (fun h2 => hndv ⟨m / 2 ^ h, by rw [Nat.mul_comm]; exact h2.symm⟩)
      obtain ⟨c, rfl⟩ : ∃ c, h = lo + c + 1 := ⟨h - lo - 1, by omega⟩
      have hcd : c < d := by omega
      have hc1 : lo + c + 1 - (lo + 1) = c := by omega
      have hsv : rd_T60 (Vs_ a0 a2 a5 l b m lo d) (c : Int) = rgMk (lo + c + 1) (m / 2 ^ (lo + c + 1)) (Tn a0 a2 a5 l b (lo + c + 1, m / 2 ^ (lo + c + 1))) := by
        rw [← shV_at]
        unfold rd_T60 Vs_
        rw [Int.toNat_natCast, List.getD_eq_getElem?_getD, List.getElem?_map, List.getElem?_range hcd]
        rfl
      have ew1 : IntKind.u64.wrap (((m / 2 ^ (lo + c + 1) * 2 ^ (lo + c + 1) : Nat) : Int) - (b : Int)) = ((m / 2 ^ (lo + c + 1) * 2 ^ (lo + c + 1) - b : Nat) : Int) := Log.sub_u64 _ _ hf1 (by omega)
      have hf3 : b ≤ (m / 2 ^ (lo + c + 1) + 1) * 2 ^ (lo + c + 1) := by rw [Nat.add_mul, Nat.one_mul]; omega
      have ew2 : IntKind.u64.wrap ((((m / 2 ^ (lo + c + 1) + 1) * 2 ^ (lo + c + 1) : Nat) : Int) - (b : Int)) = (((m / 2 ^ (lo + c + 1) + 1) * 2 ^ (lo + c + 1) - b : Nat) : Int) := Log.sub_u64 _ _ hf3 (by omega)
      have e3 : (m / 2 ^ (lo + c + 1) + 1) * 2 ^ (lo + c + 1) - b - (m / 2 ^ (lo + c + 1) * 2 ^ (lo + c + 1) - b) = 2 ^ (lo + c + 1) := by rw [Nat.add_mul, Nat.one_mul]; omega
      obtain ⟨K2, hK2⟩ := rootOf_ev (k0 := a0) (k1 := a1) (k2 := a2) (k3 := a3) (k4 := a4) (k5 := a5) 5000 l (m / 2 ^ (lo + c + 1) * 2 ^ (lo + c + 1) - b) ((m / 2 ^ (lo + c + 1) + 1) * 2 ^ (lo + c + 1) - b) (by rw [Nat.add_mul, Nat.one_mul]; omega) (by omega) hl (by omega)
      rw [e3] at hK2
      refine ⟨K + K2 + 1, fun k q hk hq => ?_⟩
      obtain ⟨q, rfl⟩ : ∃ q', q = q' + 1 := ⟨q - 1, by omega⟩
      have hrest := hK k q (by omega) (by omega)
      have hroot := hK2 k (by omega)
      dsimp only at hroot
      have e4 : wrap64 ((c : Int) + 1) = ((lo + c + 1 + 1 - (lo + 1) : Nat) : Int) := by
        rw [show lo + c + 1 + 1 - (lo + 1) = c + 1 by omega]
        exact Log.wrap_nat c (by omega)
      have hcl : ¬ ((c : Int) ≥ ((Vs_ a0 a2 a5 l b m lo d).length : Int)) := by rw [hvl]; omega
      rw [hc1, mlL, if_pos (by omega), hlv, Option.bind_some]
      dsimp only
      rw [if_neg hnb, if_neg (show ¬ (((m / 2 ^ (lo + c + 1) * 2 ^ (lo + c + 1) : Nat) : Int) ≥ (m : Int)) from fun h1 => absurd (Int.ofNat_le.mp h1) (Nat.not_le.mpr hlt)), if_neg hcl, if_pos (Int.natCast_nonneg c), hsv]
      rw [if_neg (by unfold rgMk; simp), ew1, ew2, hroot, Option.bind_some]
      unfold spec_SameText.f
      rw [Option.bind_some, hpar]
      have hs : ((strOfNums (rgMk (lo + c + 1) (m / 2 ^ (lo + c + 1)) (Tn a0 a2 a5 l b (lo + c + 1, m / 2 ^ (lo + c + 1)))).f1).toList == (strOfNums (mth (hc a0 a2 a5) (Lf l) (m / 2 ^ (lo + c + 1) * 2 ^ (lo + c + 1) - b) (2 ^ (lo + c + 1)))).toList) = true := beq_self_eq_true _
      rw [if_pos hs, Option.bind_some]
      dsimp only
      rw [e4]
      exact hrest
theorem small_loop2 (L : List (List Int)) (hL : L.length ≤ 4294967294) : ∀ (rest pre : List (List Int)), L = pre ++ rest →
    ∃ r : Bool, Ev (fun q => laws_logSmall.l0 q L L (L.length : Int) (pre.length : Int)) r ∧ (r = true → (∀ x ∈ rest, x.length ≤ 5000) ∧ L.length ≤ 300)
  | [], pre, h => by
    rw [List.append_nil] at h
    subst h
    exact ⟨_, Ev.step (fun q => laws_logSmall.l0.eq_2 _ _ _ _ _) (by simp only [if_neg (show ¬ (L.length : Int) < (L.length : Int) by omega)]; exact Ev.now _), fun h => ⟨fun x hx => (by cases hx), by have := of_decide_eq_true h; omega⟩⟩
  | y :: rest, pre, h => by
    have hlen : L.length = pre.length + (rest.length + 1) := by rw [h, List.length_append, List.length_cons]
    have c1 : (pre.length : Int) < (L.length : Int) := by omega
    have c2 : 0 ≤ (pre.length : Int) := by omega
    have hy : L.getD pre.length [] = y := by rw [h]; exact getD_len [] pre y rest
    by_cases c3 : (y.length : Int) > 5000
    · refine ⟨false, Ev.step (fun q => laws_logSmall.l0.eq_2 _ _ _ _ _) ?_, fun h => by cases h⟩
      unfold rd_L1
      simp only [toNat_cast, if_pos c1, if_pos c2, hy, if_pos c3]
      exact Ev.now _
    · obtain ⟨r, hr, h3⟩ := small_loop2 L hL rest (pre ++ [y]) (by rw [h, List.append_assoc]; rfl)
      refine ⟨r, Ev.step (fun q => laws_logSmall.l0.eq_2 _ _ _ _ _) ?_, fun hrt => ⟨fun x hx => ?_, (h3 hrt).2⟩⟩
      · unfold rd_L1
        simp only [toNat_cast, if_pos c1, if_pos c2, hy, if_neg c3, Log.wrap_nat pre.length (by omega)]
        rw [List.length_append, List.length_singleton] at hr
        exact hr
      · rcases List.mem_cons.1 hx with rfl | hx
        · omega
        · exact (h3 hrt).1 x hx
theorem room_ev (b : Nat) (hb : b < 2 ^ 64) (m : List (List Int)) (hm : m.length ≤ 4294967294) : ∃ r : Bool, Ev (fun k => laws_rangeRoom.f k (b : Int) (b : Int) ([] : List (List Int)) m) r ∧ (r = true → Small m ∧ b + m.length < 2 ^ 64) := by
  obtain ⟨r2, g2, f2⟩ := small_loop2 m hm m [] rfl
  have g3 : Ev (fun k => laws_logSmall.f k m) r2 := g2
  unfold laws_rangeRoom.f
  cases r2 with
  | false => exact ⟨false, Ev.bind g3 (Ev.now _), fun h => by cases h⟩
  | true =>
    have hs := f2 rfl
    refine ⟨_, Ev.bind g3 (Ev.now _), fun h => ⟨⟨hs.2, hs.1⟩, ?_⟩⟩
    have h := of_decide_eq_true h
    have hs := hs.2
    rw [Log.u64_nat m.length (by omega)] at h
    apply Nat.lt_of_not_le
    intro hge
    have e1 : IntKind.u64.wrap ((b : Int) + (m.length : Int)) = (((b + m.length) - 18446744073709551616 : Nat) : Int) := by
      have : ((b : Int) + (m.length : Int)) = (((b + m.length - 18446744073709551616 : Nat) : Int)) + 18446744073709551616 := by omega
      rw [this]
      unfold IntKind.wrap
      simp only [IntKind.signed, IntKind.bits, Bool.false_and, Bool.false_eq_true, if_false]
      omega
    rw [e1] at h
    omega
theorem same_refl (L : List (List Int)) (hL : L.length ≤ 2147483647) : Ev (fun k => spec_Same.f k L L) true := by
  have key : ∀ d i : Nat, i + d = L.length → Ev (fun k => spec_Same.l0 k L L (L.length : Int) (i : Int)) true := by
    intro d
    induction d with
    | zero =>
      intro i hi
      refine Ev.step (fun k => spec_Same.l0.eq_2 _ _ _ _ _) ?_
      simp only [if_neg (show ¬ (i : Int) < (L.length : Int) by omega)]
      exact Ev.now _
    | succ d ih =>
      intro i hi
      refine Ev.step (fun k => spec_Same.l0.eq_2 _ _ _ _ _) ?_
      simp only [if_pos (show (i : Int) < (L.length : Int) by omega), if_pos (show (0 : Int) ≤ (i : Int) by omega), if_true, Log.wrap_nat i (by omega)]
      exact ih (i + 1) (by omega)
  unfold spec_Same.f
  simp only [if_true]
  exact key L.length 0 (by omega)
theorem mergeLeaves_ev (a0 a1 a2 a3 a4 a5 : Int) (b : Int) (l2 l3 : List (List Int)) (w1 : (Lit.int .u64 b).wf = true) : Ev (fun k => laws_FnRangeMergeLeaves.f k a0 a1 a2 a3 a4 a5 b l2 l3) true := by
  obtain ⟨b, rfl, hb⟩ : ∃ n : Nat, b = (n : Int) ∧ n < 18446744073709551616 := by
    have := bounds_u64 w1
    exact ⟨_, (Int.toNat_of_nonneg (by omega)).symm, by omega⟩
  have hB : Ev (fun k => mlB k a0 a1 a2 a3 a4 a5 (b : Int) l2 l3 true) true := by
    unfold mlB
    simp only [if_true]
    exact Ev.now _
  obtain ⟨r1, g1, f1⟩ := fits_ev l2
  unfold laws_FnRangeMergeLeaves.f
  refine Ev.bind g1 ?_
  cases r1 with
  | false => simp only [Bool.false_eq_true, if_false]; exact hB
  | true =>
  simp only [if_true]
  obtain ⟨r2, g2, f2⟩ := fits_ev l3
  refine Ev.bind g2 ?_
  cases r2 with
  | false => exact hB
  | true =>
  have hl2 := (f1 rfl).1
  have hl3 := (f2 rfl).1
  have hall : (l2 ++ l3).length = l2.length + l3.length := List.length_append
  unfold mlB
  simp only [Bool.not_true, Bool.false_eq_true, if_false, if_pos (show l2.length + l3.length < 5864062014805 by omega)]
  obtain ⟨r3, g3, f3⟩ := room_ev b hb (l2 ++ l3) (by omega)
  refine Ev.bind g3 ?_
  cases r3 with
  | false => simp only [Bool.false_eq_true, if_false]; exact Ev.now _
  | true =>
  simp only [if_true]
  obtain ⟨hs, he⟩ := f3 rfl
  have h300 := hs.1
  have q2 : ∀ r ∈ l2, r.length ≤ 5000 := fun r hr => hs.2 r (List.mem_append.2 (.inl hr))
  have q3 : ∀ r ∈ l3, r.length ≤ 5000 := fun r hr => hs.2 r (List.mem_append.2 (.inr hr))
  have ew2 : IntKind.u64.wrap (l2.length : Int) = (l2.length : Int) := Log.u64_nat _ (by omega)
  have ewm : IntKind.u64.wrap ((b : Int) + (l2.length : Int)) = ((b + l2.length : Nat) : Int) := Log.add_u64 _ _ (by omega)
  have ew3 : IntKind.u64.wrap ((l2 ++ l3).length : Int) = ((l2 ++ l3).length : Int) := Log.u64_nat _ (by omega)
  have ewe : IntKind.u64.wrap ((b : Int) + ((l2 ++ l3).length : Int)) = ((b + (l2 ++ l3).length : Nat) : Int) := Log.add_u64 _ _ (by omega)
  simp only [ew2, ewm, ew3, ewe]
  obtain ⟨N1, h1, n1, _⟩ := size_G b (b + l2.length) (by omega) (by omega)
  obtain ⟨N2, h2, n2, _⟩ := size_G (b + l2.length) (b + (l2 ++ l3).length) (by omega) he
  have R1 := rangeOf_ev (a0 := a0) (a1 := a1) (a2 := a2) (a3 := a3) (a4 := a4) (a5 := a5) q2 (by omega) (show b + l2.length = b + l2.length from rfl) (by omega) h1 (by omega)
  have R2 := rangeOf_ev (a0 := a0) (a1 := a1) (a2 := a2) (a3 := a3) (a4 := a4) (a5 := a5) (q := l3) (s := b + l2.length) (e := b + (l2 ++ l3).length) q3 (by omega) (by omega) he h2 (by omega)
  rw [map_left a0 a2 a5 (l3 := l3) h1] at R1
  rw [map_right a0 a2 a5 (l2 := l2) (b := b) h2] at R2
  obtain ⟨vis, N, p1, p2, p3, p4, p5⟩ := appendRange_ev (a0 := a0) (a1 := a1) (a2 := a2) (a3 := a3) (a4 := a4) (a5 := a5) (l := l2 ++ l3) (b := b) (m := b + l2.length) (e := b + (l2 ++ l3).length) hs.2 (by omega) (by omega) (by omega) he h1 h2
  have R3 := rangeOf_ev (a0 := a0) (a1 := a1) (a2 := a2) (a3 := a3) (a4 := a4) (a5 := a5) (q := l2 ++ l3) hs.2 h300 (show b + (l2 ++ l3).length = b + (l2 ++ l3).length from rfl) he p1 (by omega)
  refine Ev.bind R1 (Ev.bind R2 (Ev.bind p3 ?_))
  simp only [if_true]
  refine Ev.bind R3 ?_
  have hSR : Ev (fun k => spec_SameRange.f k (b : Int) ((b + (l2 ++ l3).length : Nat) : Int) (N.map (Tn a0 a2 a5 (l2 ++ l3) b)) (b : Int) ((b + (l2 ++ l3).length : Nat) : Int) (N.map (Tn a0 a2 a5 (l2 ++ l3) b))) true := by
    unfold spec_SameRange.f
    simp only [if_true]
    exact Ev.bind (same_refl _ (by rw [List.length_map]; omega)) (Ev.now _)
  refine Ev.bind hSR ?_
  unfold mlC
  simp only [Bool.not_true, Bool.false_eq_true, if_false]
  by_cases hc : (l2.length : Int) > 0 ∧ (l3.length : Int) > 0
  · simp only [if_pos hc]
    have hme : b + l2.length < b + (l2 ++ l3).length := by omega
    obtain ⟨lo, d, rfl, c1, c2, c3⟩ := p5 (by omega) hme
    have hF0 : Fits b (b + (l2 ++ l3).length) (b + l2.length) 0 := by
      unfold Fits
      rw [Nat.pow_zero, Nat.div_one, Nat.mul_one, Nat.mul_one]
      omega
    have hF9 : ¬ Fits b (b + (l2 ++ l3).length) (b + l2.length) 9 := by
      unfold Fits
      omega
    obtain ⟨D, hD9, hD, hD1⟩ := fits_end 9 hF0 hF9
    obtain ⟨K, hK⟩ := loop_ev (a0 := a0) (a1 := a1) (a2 := a2) (a3 := a3) (a4 := a4) (a5 := a5) (l := l2 ++ l3) (b := b) (m := b + l2.length) (e := b + (l2 ++ l3).length) (lo := lo) (d := d) hs.2 rfl h300 (by omega) hme he c1 c2 hD9 hD hD1 (c3 D hD hD1) (D + 1) 0 (by omega)
    refine ⟨K, fun k hk => ?_⟩
    have := hK k k hk hk
    rw [Nat.zero_sub, Nat.pow_zero, Nat.div_one] at this
    exact this
  · simp only [if_neg hc]
    rw [p4 (by omega)]
    exact Ev.now _
theorem laws_FnRangeMergeLeaves.callsC (k : Nat) (a0_0 : Int) (a0_1 : Int) (a0_2 : Int) (a0_3 : Int) (a0_4 : Int) (a0_5 : Int) (a1 : Int) (A2 : Option Addr) (c2 : Nat) (l2 : List (List Int)) (A3 : Option Addr) (c3 : Nat) (l3 : List (List Int)) (r : Bool) (w : World) (hT : TabOK w) (hr2 : Kd.C (Kd.slice 5 (Kd.int .u8)) w A2 l2.length l2) (hc2 : l2.length ≤ c2) (hr3 : Kd.C (Kd.slice 5 (Kd.int .u8)) w A3 l3.length l3) (hc3 : l3.length ≤ c3) (h : laws_FnRangeMergeLeaves.f k a0_0 a0_1 a0_2 a0_3 a0_4 a0_5 a1 l2 l3 = some r) :
    Calls Tryd.prog 7 #[.agg #[.int .i64 a0_0, .int .i64 a0_1, .int .i64 a0_2, .int .u64 a0_3, .int .u64 a0_4, .int .u64 a0_5], .int .u64 a1, .slice A2 l2.length c2, .slice A3 l3.length c3] w fun e w' => e = .returned (.bool r) ∧ Below w.heap.size w w' :=
  laws_FnRangeMergeLeaves.calls k a0_0 a0_1 a0_2 a0_3 a0_4 a0_5 a1 (fun k_ => k_ < w.heap.size) A2 c2 l2 (fun k_ => k_ < w.heap.size) A3 c3 l3 r w hT (Kd.V_mk hc2 (Kd.C_F (Kd.heap_slice 5 (Kd.heap_int .u8)) hr2)) (Kd.V_mk hc3 (Kd.C_F (Kd.heap_slice 5 (Kd.heap_int .u8)) hr3)) h
end Go.Proofs.YtkmdkmlgahfcpaaDoor.M
