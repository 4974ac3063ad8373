/- What impl.TreeRoot answers: the root of RFC 6962. -/
import Derived.Test.YtkmdkmlgahfcpaaDoorTreeL
import Derived.Test.YtkmdkmlgahfcpaaDoorLogH
import Derived.Test.YtkmdkmlgahfcpaaDoorRangesM
namespace Go.Proofs.YtkmdkmlgahfcpaaDoor.M
open Go Go.RowKit Go.Proofs.YtkmdkmlgahfcpaaDoor.Log Go.Proofs.YtkmdkmlgahfcpaaDoor.Nodes Go.Proofs.YtkmdkmlgahfcpaaDoor.Ranges Go.Proofs.YtkmdkmlgahfcpaaDoorW.PrintMore Go.Proofs.YtkmdkmlgahfcpaaDoorW.PrintWords Go.Proofs.YtkmdkmlgahfcpaaDoorW.PrintLast
set_option linter.unusedVariables false
variable {k0 k1 k2 k3 k4 k5 : Int}
def Lf (l : List (List Int)) : Nat → List Int := fun i => l.getD i []
theorem Lf_len (l : List (List Int)) (c : Nat) (h : ∀ r ∈ l, r.length ≤ c) (i : Nat) : (Lf l i).length ≤ c := by
  unfold Lf
  rw [List.getD_eq_getElem?_getD]
  cases e : l[i]? with
  | none => simp
  | some r => exact h r (List.mem_of_getElem? e)
theorem mth_len (L : Nat → List Int) (c : Nat) (h : ∀ i, (L i).length ≤ c) : ∀ m b, 0 < m → (mth (hc k0 k2 k5) L b m).length + 9 ≤ m * (c + 9) := by
  intro m
  induction m using Nat.strongRecOn with
  | _ m ih =>
    intro b h0
    by_cases h2 : 2 ≤ m
    · have h3 := sp_lt h2
      have h4 := sp_pos m
      rw [mth_two _ L b m h2]
      have h5 := hc_len k0 k2 k5 (mth (hc k0 k2 k5) L b (sp m)) (mth (hc k0 k2 k5) L (b + sp m) (m - sp m))
      have h6 := ih (sp m) h3 b h4
      have h7 := ih (m - sp m) (by omega) (b + sp m) (by omega)
      have h8 : m * (c + 9) = sp m * (c + 9) + (m - sp m) * (c + 9) := by rw [← Nat.add_mul]; congr 1; omega
      omega
    · rw [mth_one _ L b m (by omega), show m = 1 by omega]
      have := h b
      omega
theorem hashAt_ev (l : List (List Int)) (c : Nat) (hl : ∀ r ∈ l, r.length ≤ c) (h0 : 0 < l.length) (hb : l.length * (c + 9) ≤ 34359738368) (H : List (List (List Int))) (hF : Full (hc k0 k2 k5) (Lf l) l.length H) :
    Ev (fun k => hashAt k k0 k1 k2 k3 k4 k5 H (l.length : Int)) (mth (hc k0 k2 k5) (Lf l) 0 l.length) := by
  have hn : l.length ≤ 34359738368 := Nat.le_trans (Nat.le_mul_of_pos_right _ (by omega)) hb
  unfold hashAt
  rw [show (fun k => if (l.length : Int) = 0 then impl_toy_EmptyRoot.f k k0 k1 k2 k3 k4 k5 else (compact_RangeNodes.f k 0 (l.length : Int) []).bind fun ids => if 0 < ids.length ∧ ids.length < 1099511627776 ∧ ∀ s ∈ ids, inH H s then down (fun l r => impl_toy_HashChildren.f k k0 k1 k2 k3 k4 k5 l r) (ids.map (valH H)) (ids.length - 1) ((ids.map (valH H)).getD (ids.length - 1) []) else none)
    = fun k => (compact_RangeNodes.f k 0 (l.length : Int) []).bind fun ids => if 0 < ids.length ∧ ids.length < 1099511627776 ∧ ∀ s ∈ ids, inH H s then down (fun l r => impl_toy_HashChildren.f k k0 k1 k2 k3 k4 k5 l r) (ids.map (valH H)) (ids.length - 1) ((ids.map (valH H)).getD (ids.length - 1) []) else none from by
      funext k; rw [if_neg (by omega)]]
  obtain ⟨N, hG, hNl, hE⟩ := compact_nodes 0 l.length (Nat.zero_le _) (by omega) [] (by simp)
  rw [List.nil_append] at hE
  refine Ev.bind hE ?_
  have hN0 : 0 < N.length := by
    rcases Nat.eq_zero_or_pos N.length with h | h
    · have := (G.empty hG).1 (List.length_eq_zero_iff.1 h)
      omega
    · exact h
  have hin : ∀ p ∈ N, p.2 < l.length / 2 ^ p.1 := by
    intro p hp
    have := (G.bound hG p hp).2
    exact (Nat.le_div_iff_mul_le (Nat.two_pow_pos _)).2 (by rw [Nat.succ_mul]; exact this)
  have hval : (N.map cn).map (valH H) = N.map (nodeV (hc k0 k2 k5) (Lf l)) := by
    rw [List.map_map]
    refine List.map_congr_left fun p hp => ?_
    have h1 := hin p hp
    simp only [Function.comp_apply, valH, cn, Int.toNat_natCast, nodeV]
    rw [hF.1 p.1, row_getD _ _ _ _ _ h1]
  have hinH : ∀ s ∈ N.map cn, inH H s := by
    intro s hs
    obtain ⟨p, hp, rfl⟩ := List.mem_map.1 hs
    have h1 := hin p hp
    refine ⟨by simp [cn], ?_, by simp [cn], ?_⟩
    · have := (hF.2 p.1).2 (by omega)
      simp only [cn]
      omega
    · simp only [cn, Int.toNat_natCast]
      rw [hF.1 p.1, row_len]
      omega
  have hfold : foldR (hc k0 k2 k5) (N.map (nodeV (hc k0 k2 k5) (Lf l))) [] = mth (hc k0 k2 k5) (Lf l) 0 l.length :=
    foldR_G (hc k0 k2 k5) (Lf l) [] l.length 0 36 N (Nat.dvd_zero _) (by omega) h0 (by rw [Nat.zero_add]; exact hG)
  have hnode : ∀ x ∈ N.map (nodeV (hc k0 k2 k5) (Lf l)), x.length ≤ 34359738368 := by
    intro x hx
    obtain ⟨p, hp, rfl⟩ := List.mem_map.1 hx
    have h1 := mth_len (k0 := k0) (k2 := k2) (k5 := k5) (Lf l) c (Lf_len l c hl) (2 ^ p.1) (p.2 * 2 ^ p.1) (Nat.two_pow_pos _)
    have h2 := (G.bound hG p hp).2
    have h3 : 2 ^ p.1 * (c + 9) ≤ l.length * (c + 9) := Nat.mul_le_mul_right _ (by omega)
    unfold nodeV
    omega
  obtain ⟨K, hK⟩ := down_full (hc k0 k2 k5) (fun k l r => impl_toy_HashChildren.f k k0 k1 k2 k3 k4 k5 l r) 35184372088832 (fun a b ha hb => hash_ev k0 k1 k2 k3 k4 k5 a b (by omega)) (N.map (nodeV (hc k0 k2 k5) (Lf l)))
    (fun i => by
      have h1 := foldR_len (hc k0 k2 k5) 34359738368 (hc_len k0 k2 k5) ((N.map (nodeV (hc k0 k2 k5) (Lf l))).drop i) (fun x hx => hnode x (List.mem_of_mem_drop hx))
      have h2 : ((N.map (nodeV (hc k0 k2 k5) (Lf l))).drop i).length ≤ 128 := by rw [List.length_drop, List.length_map]; omega
      have h3 := Nat.mul_le_mul_right (34359738368 + 9) h2
      omega)
    (fun x hx => by have := hnode x hx; omega) (N.length - 1) (by rw [List.length_map]; omega)
  refine ⟨K, fun k hk => ?_⟩
  have hlast : foldR (hc k0 k2 k5) ((N.map (nodeV (hc k0 k2 k5) (Lf l))).drop (N.length - 1)) [] = (N.map (nodeV (hc k0 k2 k5) (Lf l))).getD (N.length - 1) [] := by
    have h1 : (N.map (nodeV (hc k0 k2 k5) (Lf l))).drop (N.length - 1) = [(N.map (nodeV (hc k0 k2 k5) (Lf l)))[N.length - 1]'(by rw [List.length_map]; omega)] := by
      rw [List.drop_eq_getElem_cons (by rw [List.length_map]; omega), List.drop_eq_nil_of_le (by rw [List.length_map]; omega)]
    rw [h1, List.getD_eq_getElem?_getD, List.getElem?_eq_getElem (by rw [List.length_map]; omega)]
    rfl
  have := hK k hk
  rw [hlast, hfold] at this
  simp only [List.length_map, hval]
  rw [if_pos ⟨hN0, by omega, hinH⟩]
  exact this
theorem treeRoot_ev (l : List (List Int)) (c : Nat) (hl : ∀ r ∈ l, r.length ≤ c) (h0 : 0 < l.length) (hb : l.length * (c + 9) ≤ 34359738368) (hm : l.length ≤ 2147483647) (hc' : c ≤ 70368744177664) :
    Ev (fun k => impl_TreeRoot.f k k0 k1 k2 k3 k4 k5 l (IntKind.u64.wrap (l.length : Int))) (mth (hc k0 k2 k5) (Lf l) 0 l.length, true) := by
  unfold impl_TreeRoot.f
  refine Ev.congr (fun k => if_neg (Int.lt_irrefl _)) ?_
  refine Ev.bind (texts_ev l hm (fun r hr => Nat.le_trans (hl r hr) hc')) ?_
  refine Ev.congr (fun k => if_pos (by omega)) ?_
  have hW : ∀ b m, 0 < m → b + m ≤ l.length → (mth (hc k0 k2 k5) (Lf l) b m).length ≤ 35184372088832 := fun b m h1 h2 => by
    have h3 := mth_len (k0 := k0) (k2 := k2) (k5 := k5) (Lf l) c (Lf_len l c hl) m b h1
    have h4 : m * (c + 9) ≤ l.length * (c + 9) := Nat.mul_le_mul_right _ (by omega)
    omega
  obtain ⟨H, hF, K, hK⟩ := adds_full (hc k0 k2 k5) (Lf l) (fun k l r => impl_toy_HashChildren.f k k0 k1 k2 k3 k4 k5 l r) 35184372088832 (fun a b ha hb => hash_ev k0 k1 k2 k3 k4 k5 a b (by omega)) l rfl (by omega) hW l [] [] rfl (full_nil _ _)
  refine Ev.bind (a := H) ⟨max K 33, fun k hk => hK k (by omega) k (by omega)⟩ ?_
  refine Ev.bind (by rw [Go.Proofs.YtkmdkmlgahfcpaaDoor.Log.u64_nat l.length (by omega)]; exact hashAt_ev l c hl h0 hb H hF) ?_
  exact Ev.now _
end Go.Proofs.YtkmdkmlgahfcpaaDoor.M
