/- FnTreeInclusion: the printed law is true. -/
import Derived.Test.YtkmdkmlgahfcpaaDoorIncA
namespace Go.Proofs.YtkmdkmlgahfcpaaDoor.M
open Go Go.RowKit Go.Proofs.YtkmdkmlgahfcpaaDoor.Log Go.Proofs.YtkmdkmlgahfcpaaDoor.Nodes Go.Proofs.YtkmdkmlgahfcpaaDoor.Ranges Go.Proofs.YtkmdkmlgahfcpaaDoorW.PrintMore Go.Proofs.YtkmdkmlgahfcpaaDoorW.PrintWords Go.Proofs.YtkmdkmlgahfcpaaDoorW.PrintLast
set_option linter.unusedVariables false
set_option linter.unusedSimpArgs false
theorem ids_in {x t n d : Nat} {Nl Nr : List (Nat × Nat)} (hx : x < n / 2 ^ t) (hX : n / 2 ^ t / 2 ^ d = x / 2 ^ d + 1) (hev : x / 2 ^ d % 2 = 0) (hn : n < 2 ^ 64) (hGl : G 0 (x / 2 ^ d * 2 ^ (t + d)) Nl) (hGr : G ((x / 2 ^ d + 1) * 2 ^ (t + d)) n Nr) :
    ∀ nd ∈ pathIDs x t d Nl Nr, (nd.2 + 1) * 2 ^ nd.1 ≤ n := by
  obtain ⟨_, hd⟩ := node_path hx hX hev hn hGl
  have hin : ∀ p ∈ (sf t x d).map prt ++ ((if (x / 2 ^ d + 1) * 2 ^ (t + d) < n then [((x / 2 ^ d + 1) * 2 ^ (t + d), n)] else []) ++ (Nl.map prt).reverse), p.2 ≤ n := by
    intro p hp
    rw [← hd] at hp
    have := pathP_in _ _ _ p (List.mem_of_mem_drop hp)
    omega
  intro nd hnd
  unfold pathIDs at hnd
  rw [List.mem_cons, List.mem_append, List.mem_append] at hnd
  rcases hnd with rfl | (h | h) | h
  · exact Nat.le_trans (Nat.mul_le_mul_right _ hx) (Nat.div_mul_le_self n (2 ^ t))
  · exact hin (prt nd) (List.mem_append_left _ (List.mem_map_of_mem h))
  · have := hGr.bound nd (List.mem_reverse.1 h)
    rw [Nat.add_mul, Nat.one_mul]
    exact this.2
  · exact hin (prt nd) (List.mem_append_right _ (List.mem_append_right _ (List.mem_reverse.2 (List.mem_map_of_mem (List.mem_reverse.1 h)))))
variable {k0 k1 k2 k3 k4 k5 : Int}
def pV (k0 k2 k5 : Int) (l : List (List Int)) (p : Nat × Nat) : List Int := mth (hc k0 k2 k5) (Lf l) p.1 (p.2 - p.1)
def nV (k0 k2 k5 : Int) (l : List (List Int)) (p : Nat × Nat) : List Int := nodeV (hc k0 k2 k5) (Lf l) p
theorem pV_prt (l : List (List Int)) (p : Nat × Nat) : pV k0 k2 k5 l (prt p) = nV k0 k2 k5 l p := by
  unfold pV nV nodeV prt
  dsimp only
  rw [Nat.add_mul, Nat.one_mul, Nat.add_sub_cancel_left]
theorem nV_len (l : List (List Int)) (h1 : l.length ≤ 300) (h2 : ∀ r ∈ l, r.length ≤ 5000) (p : Nat × Nat) (hp : (p.2 + 1) * 2 ^ p.1 ≤ l.length) : (nV k0 k2 k5 l p).length ≤ 1502700 := by
  unfold nV nodeV
  have h3 := mth_len (k0 := k0) (k2 := k2) (k5 := k5) (Lf l) 5000 (Lf_len l 5000 h2) (2 ^ p.1) (p.2 * 2 ^ p.1) (Nat.two_pow_pos _)
  rw [Nat.add_mul, Nat.one_mul] at hp
  have h4 : 2 ^ p.1 * (5000 + 9) ≤ 300 * 5009 := Nat.mul_le_mul_right _ (by omega)
  omega
/-- The nodes beside the way up. -/
def iIDs (i d : Nat) (Nl Nr : List (Nat × Nat)) : List (Nat × Nat) := sf 0 i d ++ Nr.reverse ++ Nl.reverse
theorem inclN_ev (i s : Nat) (hi : i < s) (hs : s < 2 ^ 64) :
    ∃ (d : Nat) (Nl Nr : List (Nat × Nat)) (lv ix : Int), 0 + d < 64 ∧ s / 2 ^ 0 / 2 ^ d = i / 2 ^ d + 1 ∧ i / 2 ^ d % 2 = 0 ∧ G 0 (i / 2 ^ d * 2 ^ (0 + d)) Nl ∧ G ((i / 2 ^ d + 1) * 2 ^ (0 + d)) s Nr ∧ (i / 2 ^ d + 1) * 2 ^ (0 + d) ≤ s ∧ Nl.length ≤ 128 ∧ Nr.length ≤ 128 ∧
      Ev (fun k => proof_Inclusion.f k (i : Int) (s : Int)) ((iIDs i d Nl Nr).map cn, (if Nr = [] then 0 else ((d : Nat) : Int)), (if Nr = [] then 0 else ((d + Nr.length : Nat) : Int)), lv, ix, none) := by
  obtain ⟨d, Nl, Nr, _, htd, hX, hev, hGl, hGr, hle, hl1, hl2, hE⟩ := nodes_ev i 0 s (by omega) hs (by rw [Nat.pow_zero, Nat.div_one]; exact hi)
  refine ⟨d, Nl, Nr, ((0 + d : Nat) : Int), ((i / 2 ^ d + 1 : Nat) : Int), htd, hX, hev, hGl, hGr, hle, hl1, hl2, ?_⟩
  rw [Int.natCast_zero] at hE
  unfold proof_Inclusion.f
  simp only [if_neg (show ¬ (i : Int) ≥ (s : Int) by omega)]
  refine Ev.bind hE ?_
  have c3 : ((pathIDs i 0 d Nl Nr).map cn).drop 1 = (iIDs i d Nl Nr).map cn := rfl
  unfold proof_Nodes_skipFirst.f
  rw [if_pos (show (1 : Int) ≤ (((pathIDs i 0 d Nl Nr).map cn).length : Int) by rw [List.length_map]; unfold pathIDs; rw [List.length_cons]; omega), Option.bind_some, c3]
  cases Nr with
  | nil => exact Ev.now _
  | cons a b =>
    simp only [if_neg (show ¬ (a :: b) = [] by simp)]
    have w1 : wrap64 (((d + 1 : Nat) : Int) - 1) = ((d : Nat) : Int) := by unfold wrap64; omega
    have w2 : wrap64 (((d + 1 + (a :: b).length : Nat) : Int) - 1) = ((d + (a :: b).length : Nat) : Int) := by unfold wrap64; omega
    rw [if_pos (show ((d + 1 : Nat) : Int) < ((d + 1 + (a :: b).length : Nat) : Int) by rw [List.length_cons]; omega), w1, w2]
    exact Ev.now _
def incV (k0 k2 k5 : Int) (l : List (List Int)) (i d : Nat) (Nl Nr : List (Nat × Nat)) : List (List Int) :=
  (sf 0 i d).map (nV k0 k2 k5 l) ++ (if Nr = [] then [] else [foldR (hc k0 k2 k5) (Nr.map (nV k0 k2 k5 l)) []]) ++ (Nl.map (nV k0 k2 k5 l)).reverse
theorem inc_eq (l : List (List Int)) (i d s : Nat) (Nl Nr : List (Nat × Nat)) (hs : s < 2 ^ 64) (hi : i < s) (hX : s / 2 ^ 0 / 2 ^ d = i / 2 ^ d + 1) (hev : i / 2 ^ d % 2 = 0)
    (hGl : G 0 (i / 2 ^ d * 2 ^ (0 + d)) Nl) (hGr : G ((i / 2 ^ d + 1) * 2 ^ (0 + d)) s Nr) (hle : (i / 2 ^ d + 1) * 2 ^ (0 + d) ≤ s) :
    (pathP i 0 s).map (pV k0 k2 k5 l) = incV k0 k2 k5 l i d Nl Nr := by
  obtain ⟨_, hc2⟩ := node_path (t := 0) (by rw [Nat.pow_zero, Nat.div_one]; exact hi) hX hev hs hGl
  rw [List.drop_zero, Nat.pow_zero, Nat.mul_one] at hc2
  rw [hc2]
  unfold incV
  have e1 : ∀ (L : List (Nat × Nat)), (L.map prt).map (pV k0 k2 k5 l) = L.map (nV k0 k2 k5 l) := fun L => by
    rw [List.map_map]
    exact List.map_congr_left fun p _ => pV_prt l p
  have e4 : (if (i / 2 ^ d + 1) * 2 ^ (0 + d) < s then [((i / 2 ^ d + 1) * 2 ^ (0 + d), s)] else []).map (pV k0 k2 k5 l) = (if Nr = [] then [] else [foldR (hc k0 k2 k5) (Nr.map (nV k0 k2 k5 l)) []]) := by
    by_cases hN : Nr = []
    · have := hGr.empty.1 hN
      rw [if_pos hN, if_neg (by omega)]
      rfl
    · have hne : (i / 2 ^ d + 1) * 2 ^ (0 + d) ≠ s := fun h => hN (hGr.empty.2 h)
      rw [if_neg hN, if_pos (by omega), List.map_cons, List.map_nil]
      congr 1
      have hq : s / 2 ^ (0 + d) = i / 2 ^ d + 1 := by rw [Nat.pow_add, ← Nat.div_div_eq_div_mul]; exact hX
      have d0 := Nat.div_add_mod s (2 ^ (0 + d))
      have d1 := Nat.mod_lt s (Nat.two_pow_pos (0 + d))
      rw [hq, Nat.mul_comm] at d0
      have := foldR_G (hc k0 k2 k5) (Lf l) [] (s - (i / 2 ^ d + 1) * 2 ^ (0 + d)) ((i / 2 ^ d + 1) * 2 ^ (0 + d)) (0 + d) Nr (Nat.dvd_mul_left _ _) (by omega) (by omega) (by rw [show (i / 2 ^ d + 1) * 2 ^ (0 + d) + (s - (i / 2 ^ d + 1) * 2 ^ (0 + d)) = s by omega]; exact hGr)
      exact this.symm
  rw [List.map_append, List.map_append, List.map_reverse, e1, e1, e4, List.append_assoc]
theorem inclH_ev (l : List (List Int)) (h1 : l.length ≤ 300) (h2 : ∀ r ∈ l, r.length ≤ 5000) (H : List (List (List Int))) (hF : Full (hc k0 k2 k5) (Lf l) l.length H) (i s : Nat) (hi : i < s) (hs : s ≤ l.length) :
    Ev (fun k => inclH k k0 k1 k2 k3 k4 k5 H (i : Int) (s : Int)) ((pathP i 0 s).map (pV k0 k2 k5 l)) := by
  obtain ⟨d, Nl, Nr, lv, ix, htd, hX, hev, hGl, hGr, hle, hl1, hl2, hE⟩ := inclN_ev i s hi (by omega)
  rw [inc_eq l i d s Nl Nr (by omega) hi hX hev hGl hGr hle]
  have hin0 := ids_in (by rw [Nat.pow_zero, Nat.div_one]; exact hi) hX hev (by omega) hGl hGr
  have hin : ∀ p ∈ iIDs i d Nl Nr, (p.2 + 1) * 2 ^ p.1 ≤ l.length := fun p hp => Nat.le_trans (hin0 p (List.mem_cons_of_mem _ hp)) hs
  have hlt : ∀ p ∈ iIDs i d Nl Nr, p.2 < l.length / 2 ^ p.1 := fun p hp => (Nat.le_div_iff_mul_le (Nat.two_pow_pos _)).2 (hin p hp)
  have hval : ((iIDs i d Nl Nr).map cn).map (valH H) = (iIDs i d Nl Nr).map (nV k0 k2 k5 l) := by
    rw [List.map_map]
    refine List.map_congr_left fun p hp => ?_
    have h1 := hlt p hp
    simp only [Function.comp_apply, valH, cn, Int.toNat_natCast, nV, nodeV]
    rw [hF.1 p.1, row_getD _ _ _ _ _ h1]
  have hinH : ∀ q ∈ (iIDs i d Nl Nr).map cn, inH H q := by
    intro q hq
    obtain ⟨p, hp, rfl⟩ := List.mem_map.1 hq
    have h1 := hlt p hp
    refine ⟨by simp [cn], ?_, by simp [cn], ?_⟩
    · have := (hF.2 p.1).2 (by omega)
      simp only [cn]
      omega
    · simp only [cn, Int.toNat_natCast]
      rw [hF.1 p.1, row_len]
      omega
  have hlen : (iIDs i d Nl Nr).length = d + Nr.length + Nl.length := by
    unfold iIDs
    rw [List.length_append, List.length_append, List.length_reverse, List.length_reverse, sf_len]
  have hv : ∀ r ∈ (iIDs i d Nl Nr).map (nV k0 k2 k5 l), r.length ≤ 1502700 := by
    intro r hr
    obtain ⟨p, hp, rfl⟩ := List.mem_map.1 hr
    exact nV_len l h1 h2 p (hin p hp)
  have hsh : (iIDs i d Nl Nr).map (nV k0 k2 k5 l) = (sf 0 i d).map (nV k0 k2 k5 l) ++ ((Nr.map (nV k0 k2 k5 l)).reverse ++ (Nl.map (nV k0 k2 k5 l)).reverse) := by
    unfold iIDs
    rw [List.map_append, List.map_append, List.map_reverse, List.map_reverse, List.append_assoc]
  unfold inclH
  refine Ev.bind hE ?_
  simp only [Option.isNone_none, if_true, hval, List.length_map, hlen]
  by_cases hN0 : Nr = []
  · simp only [if_pos hN0]
    refine Ev.congr (fun k => if_pos ⟨hinH, by omega, by omega, by omega, by omega⟩) ?_
    refine Ev.congr (f := fun _ => some (incV k0 k2 k5 l i d Nl Nr)) (fun k => ?_) (Ev.now _)
    rw [rhGo_end _ _ _ _ _ _ _ (.inl (by simp)) (by rw [List.length_map, hlen]; omega), List.nil_append]
    unfold incV
    rw [if_pos hN0, hsh, hN0]
    simp
  · simp only [if_neg hN0]
    refine Ev.congr (fun k => if_pos ⟨hinH, by omega, by omega, by omega, by omega⟩) ?_
    obtain ⟨L, z, hLz⟩ : ∃ L z, Nr.map (nV k0 k2 k5 l) = L ++ [z] := by
      rcases List.eq_nil_or_concat (Nr.map (nV k0 k2 k5 l)) with h | ⟨L, z, h⟩
      · exact absurd (List.map_eq_nil_iff.1 h) hN0
      · exact ⟨L, z, by rw [h, List.concat_eq_append]⟩
    obtain ⟨a, r, ha, hf⟩ := fU_foldR (hc k0 k2 k5) [] L z
    rw [← hLz] at ha hf
    have hrl : r.length + 1 = Nr.length := by
      have := congrArg List.length ha
      rw [List.length_reverse, List.length_map, List.length_cons] at this
      omega
    have hmem : ∀ y ∈ a :: r, y.length ≤ 1502700 := by
      intro y hy
      rw [← ha] at hy
      refine hv y ?_
      rw [hsh]
      exact List.mem_append_right _ (List.mem_append_left _ hy)
    have ht := tot_le 1502700 r (fun y hy => hmem y (List.mem_cons_of_mem _ hy))
    have ht2 : r.length * (1502700 + 9) ≤ 128 * (1502700 + 9) := Nat.mul_le_mul_right _ (by omega)
    have ha1 := hmem a List.mem_cons_self
    have hgo := rhGo_ev (k0 := k0) (k1 := k1) (k2 := k2) (k3 := k3) (k4 := k4) (k5 := k5) ((sf 0 i d).map (nV k0 k2 k5 l)) ((Nl.map (nV k0 k2 k5 l)).reverse) r a (by omega) d (d + Nr.length) (d + Nr.length + Nl.length + 1)
      (by rw [List.length_map, sf_len]) (by omega) (by rw [List.length_map, sf_len, List.length_reverse, List.length_map]; omega)
    rw [hsh, ha]
    simp only [Int.toNat_natCast]
    unfold incV
    rw [if_neg hN0, ← hf]
    exact hgo
theorem treeIncl_ev (l : List (List Int)) (h1 : l.length ≤ 300) (h2 : ∀ r ∈ l, r.length ≤ 5000) (i s : Nat) (hi : i < s) (hs : s ≤ l.length) :
    Ev (fun k => impl_TreeInclusion.f k k0 k1 k2 k3 k4 k5 l (i : Int) (s : Int)) ((pathP i 0 s).map (pV k0 k2 k5 l), true) := by
  unfold impl_TreeInclusion.f
  refine Ev.congr (fun k => by rw [Log.u64_nat l.length (by omega), if_neg (by omega), if_neg (by omega)]) ?_
  refine Ev.bind (texts_ev l (by omega) (fun r hr => by have := h2 r hr; omega)) ?_
  refine Ev.congr (fun k => if_pos (by omega)) ?_
  have hW : ∀ b m, 0 < m → b + m ≤ l.length → (mth (hc k0 k2 k5) (Lf l) b m).length ≤ 35184372088832 := fun b m g1 g2 => by
    have h3 := mth_len (k0 := k0) (k2 := k2) (k5 := k5) (Lf l) 5000 (Lf_len l 5000 h2) m b g1
    have h4 : m * (5000 + 9) ≤ 300 * (5000 + 9) := Nat.mul_le_mul_right _ (by omega)
    omega
  obtain ⟨H, hF, K, hK⟩ := adds_full (hc k0 k2 k5) (Lf l) (fun k l r => impl_toy_HashChildren.f k k0 k1 k2 k3 k4 k5 l r) 35184372088832 (fun a b ha hb => hash_ev k0 k1 k2 k3 k4 k5 a b (by omega)) l rfl (by omega) hW l [] [] rfl (full_nil _ _)
  refine Ev.bind (a := H) ⟨max K 33, fun k hk => hK k (by omega) k (by omega)⟩ ?_
  refine Ev.bind (inclH_ev l h1 h2 H hF i s hi hs) ?_
  have hpl := pathP_len i s hi (by omega)
  have hb1 := border_le i s
  have hb2 := inner_le i s hi (by omega)
  refine Ev.bind (texts_ev _ (by rw [List.length_map]; omega) (fun r hr => ?_)) (Ev.now _)
  obtain ⟨p, hp, rfl⟩ := List.mem_map.1 hr
  have hpi := pathP_in _ _ _ p hp
  unfold pV
  have h3 := mth_len (k0 := k0) (k2 := k2) (k5 := k5) (Lf l) 5000 (Lf_len l 5000 h2) (p.2 - p.1) p.1 (by omega)
  have h4 : (p.2 - p.1) * (5000 + 9) ≤ 300 * 5009 := Nat.mul_le_mul_right _ (by omega)
  omega
theorem treeInclusion_ev (l : List (List Int)) (a2 a3 : Int) (w2 : (Lit.int .u64 a2).wf = true) (w3 : (Lit.int .u64 a3).wf = true) : Ev (fun k => laws_FnTreeInclusion.f k k0 k1 k2 k3 k4 k5 l a2 a3) true := by
  obtain ⟨i, rfl, hi⟩ := nat_u64 w2
  obtain ⟨s, rfl, hs⟩ := nat_u64 w3
  obtain ⟨r, hr, hrf⟩ := fits_ev l
  unfold laws_FnTreeInclusion.f
  refine Ev.bind hr ?_
  cases r with
  | false => simp only [Bool.false_eq_true, if_false]; exact Ev.now _
  | true =>
  simp only [if_true]
  obtain ⟨t, ht, hts⟩ := small_ev l (hrf rfl).1
  refine Ev.bind ht ?_
  cases t with
  | false => simp only [Bool.false_eq_true, if_false]; exact Ev.now _
  | true =>
  simp only [if_true]
  have hsm := hts rfl
  have hl := hsm.1
  have hu : IntKind.u64.wrap (l.length : Int) = (l.length : Int) := Log.u64_nat l.length (by omega)
  have hj : ∀ x9, Ev (fun k => laws_FnTreeInclusion.j0 k l (i : Int) (s : Int) x9 false true k0 k1 k2 k3 k4 k5) true := fun x9 => by
    refine Ev.step (fun k => laws_FnTreeInclusion.j0.eq_2 _ _ _ _ _ _ _ _ _ _ _ _ _) ?_
    simp only [if_true, Bool.not_false]
    exact Ev.now _
  by_cases c1 : (l.length : Int) < (s : Int)
  · have hE : Ev (fun k => impl_TreeInclusion.f k k0 k1 k2 k3 k4 k5 l (i : Int) (s : Int)) ([], false) := by
      unfold impl_TreeInclusion.f
      exact Ev.congr (fun k => by rw [hu, if_pos c1]) (Ev.now _)
    refine Ev.bind hE ?_
    simp only [hu, if_pos (show (s : Int) > (l.length : Int) from c1)]
    exact hj _
  by_cases c2 : (s : Int) ≤ (i : Int)
  · have hE : Ev (fun k => impl_TreeInclusion.f k k0 k1 k2 k3 k4 k5 l (i : Int) (s : Int)) ([], false) := by
      unfold impl_TreeInclusion.f
      exact Ev.congr (fun k => by rw [hu, if_neg c1, if_pos c2]) (Ev.now _)
    refine Ev.bind hE ?_
    simp only [hu, if_neg (show ¬ (s : Int) > (l.length : Int) from c1), decide_eq_true (show (i : Int) ≥ (s : Int) from c2)]
    exact hj _
  have hE := treeIncl_ev (k0 := k0) (k1 := k1) (k2 := k2) (k3 := k3) (k4 := k4) (k5 := k5) l hsm.1 hsm.2 i s (by omega) (by omega)
  refine Ev.bind hE ?_
  simp only [hu, if_neg (show ¬ (s : Int) > (l.length : Int) from c1), decide_eq_false (show ¬ (i : Int) ≥ (s : Int) from c2)]
  refine Ev.step (fun k => laws_FnTreeInclusion.j0.eq_2 _ _ _ _ _ _ _ _ _ _ _ _ _) ?_
  simp only [Bool.false_eq_true, if_false, if_true, if_pos (show (0 : Int) ≤ (s : Int) by omega), if_pos (show (s : Int) ≤ (l.length : Int) by omega), toNat_cast]
  have tl : (l.take s).length = s := by rw [List.length_take]; omega
  have hP := path_ev (k0 := k0) (k1 := k1) (k2 := k2) (k3 := k3) (k4 := k4) (k5 := k5) 5000 (l.take s) i (by omega) (fun r hr => hsm.2 r (List.mem_of_mem_take hr)) (by omega)
  rw [tl] at hP
  have heq : ((pathP i 0 s).map fun p => mth (hc k0 k2 k5) (Lf (l.take s)) p.1 (p.2 - p.1)) = (pathP i 0 s).map (pV k0 k2 k5 l) := by
    refine List.map_congr_left fun p hp => ?_
    have hpi := pathP_in _ _ _ p hp
    unfold pV
    refine mth_cong _ _ _ _ _ _ (by omega) (fun t ht => ?_)
    unfold Lf
    rw [List.getD_eq_getElem?_getD, List.getD_eq_getElem?_getD, List.getElem?_take, if_pos (by omega)]
  rw [heq] at hP
  have hpl := pathP_len i s (by omega) (by omega)
  have hb1 := border_le i s
  have hb2 := inner_le i s (by omega) (by omega)
  exact Ev.bind hP (Ev.bind (same_refl _ (by rw [List.length_map]; omega)) (Ev.now _))
end Go.Proofs.YtkmdkmlgahfcpaaDoor.M
