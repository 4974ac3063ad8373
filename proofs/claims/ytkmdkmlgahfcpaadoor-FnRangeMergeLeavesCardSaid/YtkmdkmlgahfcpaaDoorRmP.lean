/- Two neighbouring ranges of tree hashes put together: plain lists. -/
import Derived.Test.YtkmdkmlgahfcpaaDoorSpecW
import Derived.Test.YtkmdkmlgahfcpaaDoorMergeG
import Derived.Test.YtkmdkmlgahfcpaaDoorSizeE
namespace Go.Proofs.YtkmdkmlgahfcpaaDoor.M
open Go Go.RowKit Go.Proofs.YtkmdkmlgahfcpaaDoor.Nodes Go.Proofs.YtkmdkmlgahfcpaaDoor.Ranges Go.Proofs.YtkmdkmlgahfcpaaDoor.Log Go.Proofs.YtkmdkmlgahfcpaaDoorW.PrintWords Go.Proofs.YtkmdkmlgahfcpaaDoorW.PrintLast Go.Proofs.YtkmdkmlgahfcpaaDoorW.PrintMore
set_option linter.unusedVariables false
set_option linter.unusedSimpArgs false
theorem half_up (x h : Nat) (hx : x % 2 = 1) : (x / 2 + 1) * 2 ^ (h + 1) = (x + 1) * 2 ^ h ∧ x / 2 * 2 ^ (h + 1) = (x - 1) * 2 ^ h := by
  have e2 : 2 ^ (h + 1) = 2 * 2 ^ h := by rw [Nat.pow_succ]; omega
  rw [e2, ← Nat.mul_assoc, ← Nat.mul_assoc]
  exact ⟨by congr 1; omega, by congr 1; omega⟩
theorem half_dn (x h : Nat) (hx : x % 2 = 0) : (x / 2 + 1) * 2 ^ (h + 1) = (x + 2) * 2 ^ h ∧ x / 2 * 2 ^ (h + 1) = x * 2 ^ h := by
  have e2 : 2 ^ (h + 1) = 2 * 2 ^ h := by rw [Nat.pow_succ]; omega
  rw [e2, ← Nat.mul_assoc, ← Nat.mul_assoc]
  exact ⟨by congr 1; omega, by congr 1; omega⟩
theorem u64_fit (x : Int) (h0 : 0 ≤ x) (h1 : x < 18446744073709551616) : IntKind.u64.wrap x = x := by
  exact IntWalk.u64_in _ ⟨h0, by omega⟩
/-- The hash of a node of the range that begins at b: that of the tree over its leaves. -/
def Tn (k0 k2 k5 : Int) (l : List (List Int)) (b : Nat) (n : Nat × Nat) : List Int := mth (hc k0 k2 k5) (Lf l) (n.2 * 2 ^ n.1 - b) (2 ^ n.1)
theorem Tn_up (k0 k2 k5 : Int) (l : List (List Int)) {b h x : Nat} (hb : b ≤ x * 2 ^ (h + 1)) : Tn k0 k2 k5 l b (h + 1, x) = hc k0 k2 k5 (Tn k0 k2 k5 l b (h, 2 * x)) (Tn k0 k2 k5 l b (h, 2 * x + 1)) := by
  have e1 : 2 * x * 2 ^ h = x * 2 ^ (h + 1) := by rw [Nat.pow_succ, Nat.mul_comm 2 x, Nat.mul_assoc, Nat.mul_comm 2]
  have e2 : (2 * x + 1) * 2 ^ h - b = x * 2 ^ (h + 1) - b + 2 ^ h := by rw [Nat.add_mul, Nat.one_mul, e1, Nat.sub_add_comm hb]
  show mth _ _ (x * 2 ^ (h + 1) - b) (2 ^ (h + 1)) = hc k0 k2 k5 (mth _ _ (2 * x * 2 ^ h - b) (2 ^ h)) (mth _ _ ((2 * x + 1) * 2 ^ h - b) (2 ^ h))
  rw [mth_pow, e1, e2]
theorem Tn_len (k0 k2 k5 : Int) {l : List (List Int)} {b h x : Nat} (hl : ∀ r ∈ l, r.length ≤ 5000) (h3 : 2 ^ h ≤ 300) : (Tn k0 k2 k5 l b (h, x)).length ≤ 1600000 := by
  have := mth_len (k0 := k0) (k2 := k2) (k5 := k5) (Lf l) 5000 (Lf_len l 5000 hl) (2 ^ h) (x * 2 ^ h - b) (Nat.two_pow_pos h)
  show (mth (hc k0 k2 k5) (Lf l) (x * 2 ^ h - b) (2 ^ h)).length ≤ 1600000
  omega
theorem range_map {α : Type} (f : Nat → α) (d : Nat) : (List.range (d + 1)).map f = f 0 :: (List.range d).map (fun j => f (j + 1)) := by
  rw [List.range_succ_eq_map, List.map_cons, List.map_map]
  rfl
/-- A node that is shown. -/
def shV (k0 k2 k5 : Int) (l : List (List Int)) (b h x j : Nat) : S60 := rgMk (h + j + 1) (x / 2 ^ (j + 1)) (Tn k0 k2 k5 l b (h + j + 1, x / 2 ^ (j + 1)))
theorem shV_0 (k0 k2 k5 : Int) (l : List (List Int)) (b h x : Nat) : shV k0 k2 k5 l b h x 0 = rgMk (h + 1) (x / 2) (Tn k0 k2 k5 l b (h + 1, x / 2)) := by
  unfold shV
  rw [Nat.add_zero, Nat.zero_add, Nat.pow_one]
theorem shV_s (k0 k2 k5 : Int) (l : List (List Int)) (b h x j : Nat) : shV k0 k2 k5 l b h x (j + 1) = shV k0 k2 k5 l b (h + 1) (x / 2) j := by
  unfold shV
  rw [Nat.div_div_eq_div_mul, show h + (j + 1) + 1 = h + 1 + j + 1 by omega, show 2 ^ (j + 1 + 1) = 2 * 2 ^ (j + 1) by rw [Nat.pow_succ, Nat.mul_comm]]
/-- d merges from (h, x) on. -/
theorem mg_T {hcI : Nat → List Int → List Int → Option (List Int)} {k0 k2 k5 : Int} (hI : ∀ l r, l.length + r.length ≤ 8000000 → Ev (fun k => hcI k l r) (hc k0 k2 k5 l r)) {l : List (List Int)} {b e : Nat} (hl : ∀ r ∈ l, r.length ≤ 5000) (hbe : e ≤ b + 300) :
    ∀ (d h x : Nat) (Ln Rn : List (Nat × Nat)) (vis : List S60), G b (x * 2 ^ h) Ln → G ((x + 1) * 2 ^ h) e Rn → x < 2 ^ 64 → (∀ j, j < d → b ≤ x / 2 ^ (j + 1) * 2 ^ (h + j + 1) ∧ (x / 2 ^ (j + 1) + 1) * 2 ^ (h + j + 1) ≤ e) →
    ∃ Ln' Rn', G b (x / 2 ^ d * 2 ^ (h + d)) Ln' ∧ G ((x / 2 ^ d + 1) * 2 ^ (h + d)) e Rn' ∧ Ln.length = Ln'.length + Lib.onesCount (x % 2 ^ d) ∧ Rn.length + Lib.onesCount (x % 2 ^ d) = Rn'.length + d
      ∧ Ev (fun k => Mrg.mgF rgMk (hcI k) d h x (Ln.map (Tn k0 k2 k5 l b)) (Rn.map (Tn k0 k2 k5 l b)) (Tn k0 k2 k5 l b (h, x)) vis) (Ln'.map (Tn k0 k2 k5 l b) ++ Tn k0 k2 k5 l b (h + d, x / 2 ^ d) :: Rn'.map (Tn k0 k2 k5 l b), vis ++ (List.range d).map (shV k0 k2 k5 l b h x)) := by
  intro d
  induction d with
  | zero =>
    intro h x Ln Rn vis hL hR hx _
    refine ⟨Ln, Rn, by rw [Nat.pow_zero, Nat.div_one]; exact hL, by rw [Nat.pow_zero, Nat.div_one]; exact hR, by rw [Nat.pow_zero, Nat.mod_one, pop_none, Nat.add_zero], by rw [Nat.pow_zero, Nat.mod_one, pop_none], ?_⟩
    rw [Nat.pow_zero, Nat.div_one, List.range_zero, List.map_nil, List.append_nil]
    exact Ev.now _
  | succ d ih =>
    intro h x Ln Rn vis hL hR hx hF
    have hF0 := hF 0 (Nat.succ_pos _)
    rw [Nat.zero_add, Nat.pow_one, Nat.add_zero] at hF0
    have hdiv : ∀ j, x / 2 / 2 ^ j = x / 2 ^ (j + 1) := fun j => by rw [Nat.div_div_eq_div_mul, Nat.pow_succ, Nat.mul_comm]
    have hF' : ∀ j, j < d → b ≤ x / 2 / 2 ^ (j + 1) * 2 ^ (h + 1 + j + 1) ∧ (x / 2 / 2 ^ (j + 1) + 1) * 2 ^ (h + 1 + j + 1) ≤ e := fun j hj => by
      have := hF (j + 1) (by omega)
      rw [hdiv, show h + 1 + j + 1 = h + (j + 1) + 1 by omega]
      exact this
    have hpow : 2 ^ h ≤ 300 ∧ 2 ^ (h + 1) ≤ 300 := by
      have e2 : 2 ^ (h + 1) = 2 * 2 ^ h := by rw [Nat.pow_succ]; omega
      have := hF0.2
      rw [Nat.add_mul, Nat.one_mul] at this
      omega
    have hlen := fun x_ => Tn_len k0 k2 k5 (b := b) (x := x_) hl hpow.1
    have hones := pop_low x d hx
    have hvis : (vis ++ [rgMk (h + 1) (x / 2) (Tn k0 k2 k5 l b (h + 1, x / 2))]) ++ (List.range d).map (shV k0 k2 k5 l b (h + 1) (x / 2)) = vis ++ (List.range (d + 1)).map (shV k0 k2 k5 l b h x) := by
      rw [range_map, shV_0, List.append_assoc]
      simp only [shV_s]
      rfl
    by_cases hx2 : x % 2 = 0
    · obtain ⟨e1, e2⟩ := half_dn x h hx2
      obtain ⟨R', rfl, hR'⟩ := G.first hx2 hR (by rw [← e1]; exact hF0.2)
      have hT : hc k0 k2 k5 (Tn k0 k2 k5 l b (h, x)) (Tn k0 k2 k5 l b (h, x + 1)) = Tn k0 k2 k5 l b (h + 1, x / 2) := by
        rw [Tn_up k0 k2 k5 l hF0.1, show 2 * (x / 2) = x by omega]
      obtain ⟨Ln', Rn', p1, p2, p3, p4, p5⟩ := ih (h + 1) (x / 2) Ln R' (vis ++ [rgMk (h + 1) (x / 2) (Tn k0 k2 k5 l b (h + 1, x / 2))]) (by rw [e2]; exact hL) (by rw [e1]; exact hR') (by omega) hF'
      rw [hvis] at p5
      rw [hdiv, show h + 1 + d = h + (d + 1) by omega] at p1 p2 p5
      refine ⟨Ln', Rn', p1, p2, by omega, by rw [List.length_cons]; omega, ?_⟩
      refine Ev.congr (f := fun k => (hcI k (Tn k0 k2 k5 l b (h, x)) (Tn k0 k2 k5 l b (h, x + 1))).bind fun y => Mrg.mgF rgMk (hcI k) d (h + 1) (x / 2) (Ln.map (Tn k0 k2 k5 l b)) (R'.map (Tn k0 k2 k5 l b)) y (vis ++ [rgMk (h + 1) (x / 2) y])) (fun k => ?_) ?_
      · rw [Mrg.mgF, if_pos hx2]
        rfl
      · have h1 := hlen x
        have h2 := hlen (x + 1)
        refine Ev.bind (hI _ _ (by omega)) ?_
        rw [hT]
        exact p5
    · have hx1 : x % 2 = 1 := by omega
      obtain ⟨e1, e2⟩ := half_up x h hx1
      obtain ⟨L', rfl, hL'⟩ := G.last hx1 hL (by rw [← e2]; exact hF0.1)
      have hT : hc k0 k2 k5 (Tn k0 k2 k5 l b (h, x - 1)) (Tn k0 k2 k5 l b (h, x)) = Tn k0 k2 k5 l b (h + 1, x / 2) := by
        rw [Tn_up k0 k2 k5 l hF0.1, show 2 * (x / 2) = x - 1 by omega, show x - 1 + 1 = x by omega]
      obtain ⟨Ln', Rn', p1, p2, p3, p4, p5⟩ := ih (h + 1) (x / 2) L' Rn (vis ++ [rgMk (h + 1) (x / 2) (Tn k0 k2 k5 l b (h + 1, x / 2))]) (by rw [e2]; exact hL') (by rw [e1]; exact hR) (by omega) hF'
      rw [hvis] at p5
      rw [hdiv, show h + 1 + d = h + (d + 1) by omega] at p1 p2 p5
      refine ⟨Ln', Rn', p1, p2, by rw [List.length_append, List.length_singleton]; omega, by omega, ?_⟩
      have hm : (L' ++ [(h, x - 1)]).map (Tn k0 k2 k5 l b) = L'.map (Tn k0 k2 k5 l b) ++ [Tn k0 k2 k5 l b (h, x - 1)] := by rw [List.map_append, List.map_singleton]
      have hg : (L'.map (Tn k0 k2 k5 l b) ++ [Tn k0 k2 k5 l b (h, x - 1)]).getLast? = some (Tn k0 k2 k5 l b (h, x - 1)) := by simp
      have hd : (L'.map (Tn k0 k2 k5 l b) ++ [Tn k0 k2 k5 l b (h, x - 1)]).dropLast = L'.map (Tn k0 k2 k5 l b) := by simp
      refine Ev.congr (f := fun k => (hcI k (Tn k0 k2 k5 l b (h, x - 1)) (Tn k0 k2 k5 l b (h, x))).bind fun y => Mrg.mgF rgMk (hcI k) d (h + 1) (x / 2) (L'.map (Tn k0 k2 k5 l b)) (Rn.map (Tn k0 k2 k5 l b)) y (vis ++ [rgMk (h + 1) (x / 2) y])) (fun k => ?_) ?_
      · rw [Mrg.mgF, if_neg hx2, hm, hg, hd]
        rfl
      · have h1 := hlen (x - 1)
        have h2 := hlen x
        refine Ev.bind (hI _ _ (by omega)) ?_
        rw [hT]
        exact p5
/-- The merge path of two ranges. -/
theorem gmp2 {b m e : Nat} (hb : b ≤ m) (hm0 : 0 < m) (hme : m < e) (he : e < 2 ^ 64) : ∃ lo hi : Nat, compact_getMergePath.f (b : Int) (m : Int) (e : Int) = some ((lo : Int), (hi : Int)) ∧ lo < 64 ∧ hi < 64 ∧ 2 ^ lo ∣ m ∧ m / 2 ^ lo % 2 = 1
    ∧ ∀ j, lo ≤ j → (j < hi ↔ Fits b e m (j + 1)) := by
  have hz : Lib.ctz 64 m = Lib.ctzFrom 64 m := by unfold Lib.ctz; rw [if_neg (by omega)]
  obtain ⟨q, hq, hlt⟩ := Lib.ctzFrom_spec 64 m (by omega) (by omega)
  rw [← hz] at hq hlt
  generalize hZ : Lib.ctz 64 m = z at *
  have hlen : ∀ x : Nat, x < 2 ^ 64 → bits_Len64.f (x : Int) = some (Lib.bitLen x : Int) := fun x hx => by
    unfold bits_Len64.f
    rw [if_pos ⟨by omega, by omega⟩, Int.toNat_natCast]
  have hX : (m - 1) ^^^ e < 2 ^ 64 := Nat.xor_lt_two_pow (by omega) he
  have hY : m ^^^ (b - 1) < 2 ^ 64 := Nat.xor_lt_two_pow (by omega) (by omega)
  have hX1 : 0 < Lib.bitLen ((m - 1) ^^^ e) := (bl_lt _ 0 hX).2 (Nat.pos_of_ne_zero (fun h => by have := xor_zero'.1 h; omega))
  have hY1 : 0 < Lib.bitLen (m ^^^ (b - 1)) := (bl_lt _ 0 hY).2 (Nat.pos_of_ne_zero (fun h => by have := xor_zero'.1 h; omega))
  have hX2 := Lib.bitLen_le _ 64 (Nat.le_refl _) hX
  have hY2 := Lib.bitLen_le _ 64 (Nat.le_refl _) hY
  have hmain : ∃ hi : Nat, compact_getMergePath.f (b : Int) (m : Int) (e : Int) = some ((z : Int), (hi : Int)) ∧ hi < 64 ∧ ∀ j, j < hi ↔ ((b = 0 ∨ j + 1 < Lib.bitLen (m ^^^ (b - 1))) ∧ j + 1 < Lib.bitLen ((m - 1) ^^^ e)) := by
    have hw1 : IntKind.u64.wrap ((m : Int) - 1) = ((m - 1 : Nat) : Int) := (u64_fit _ (by omega) (by omega)).trans (by omega)
    have hx1 : Go.bits .xor .u64 ((m - 1 : Nat) : Int) (e : Int) = (((m - 1) ^^^ e : Nat) : Int) := bits_xor_u64_nat _ _ (by omega) (by omega)
    have hzw : IntKind.u64.wrap (z : Int) = z := u64_fit _ (by omega) (by omega)
    have htz : bits_TrailingZeros64.f (m : Int) = some (z : Int) := by
      unfold bits_TrailingZeros64.f
      rw [if_pos ⟨by omega, by omega⟩, Int.toNat_natCast, hZ]
    have hend : ∀ t : Nat, 0 < t → t ≤ 64 → IntKind.u64.wrap (wrap64 ((t : Int) - 1)) = ((t - 1 : Nat) : Int) := fun t h1 h2 => by
      rw [show wrap64 ((t : Int) - 1) = ((t - 1 : Nat) : Int) by unfold wrap64; omega]
      exact u64_fit _ (by omega) (by omega)
    unfold compact_getMergePath.f
    rw [htz, Option.bind_some, hw1, hx1, hlen _ hX, Option.bind_some, hzw]
    by_cases hb0 : b = 0
    · subst hb0
      rw [if_pos (by rfl)]
      by_cases h64 : (Lib.bitLen ((m - 1) ^^^ e) : Int) < 64
      · rw [if_pos h64, hend _ hX1 hX2]
        exact ⟨_, rfl, by omega, fun j => by omega⟩
      · rw [if_neg h64]
        exact ⟨63, rfl, by omega, fun j => by omega⟩
    · have hw2 : IntKind.u64.wrap ((b : Int) - 1) = ((b - 1 : Nat) : Int) := (u64_fit _ (by omega) (by omega)).trans (by omega)
      have hx2 : Go.bits .xor .u64 (m : Int) ((b - 1 : Nat) : Int) = ((m ^^^ (b - 1) : Nat) : Int) := bits_xor_u64_nat _ _ (by omega) (by omega)
      rw [if_neg (by omega), hw2, hx2, hlen _ hY, Option.bind_some, Option.bind_some]
      by_cases hlt2 : (Lib.bitLen ((m - 1) ^^^ e) : Int) < (Lib.bitLen (m ^^^ (b - 1)) : Int)
      · rw [if_pos hlt2, hend _ hX1 hX2]
        exact ⟨_, rfl, by omega, fun j => by omega⟩
      · rw [if_neg hlt2, hend _ hY1 hY2]
        exact ⟨_, rfl, by omega, fun j => by omega⟩
  obtain ⟨hi, hf, h64, hiff⟩ := hmain
  have hp := pow_pos z
  have hdv : m / 2 ^ z = 2 * q + 1 := by
    rw [hq, Nat.mul_div_cancel_left _ hp]
  refine ⟨z, hi, hf, by omega, h64, ⟨2 * q + 1, hq⟩, by rw [hdv]; omega, fun j hj => (hiff j).trans (path_iff hb hm0 hme he (fun hd => ?_))⟩
  have h2 : 2 ^ (z + 1) ∣ m := pow_dvd (by omega) hd
  obtain ⟨c, hc⟩ := h2
  rw [Nat.pow_succ, Nat.mul_assoc] at hc
  have := Nat.eq_of_mul_eq_mul_left hp (hq.symm.trans hc)
  omega
end Go.Proofs.YtkmdkmlgahfcpaaDoor.M
