/- The implementation's merge of two ranges of tree hashes, and the specification's ranges, in plain lists. -/
import Derived.Test.YtkmdkmlgahfcpaaDoorRmP
namespace Go.Proofs.YtkmdkmlgahfcpaaDoor.M
open Go Go.RowKit Go.Proofs.YtkmdkmlgahfcpaaDoor.Nodes Go.Proofs.YtkmdkmlgahfcpaaDoor.Ranges Go.Proofs.YtkmdkmlgahfcpaaDoor.Log Go.Proofs.YtkmdkmlgahfcpaaDoorW.PrintWords Go.Proofs.YtkmdkmlgahfcpaaDoorW.PrintLast Go.Proofs.YtkmdkmlgahfcpaaDoorW.PrintMore
set_option linter.unusedVariables false
set_option linter.unusedSimpArgs false
theorem rgH_ev {a0 a1 a2 a3 a4 a5 : Int} (l r : List Int) (h : l.length + r.length ≤ 8000000) : Ev (fun k => rgH k a0 a1 a2 a3 a4 a5 l r) (hc a0 a2 a5 l r) := by
  unfold rgH
  refine Ev.bind (hash_ev a0 a1 a2 a3 a4 a5 l r (by omega)) ?_
  have := hc_len a0 a2 a5 l r
  rw [if_pos (by omega)]
  exact Ev.now _
/-- The nodes that are shown. -/
def Vs_ (k0 k2 k5 : Int) (l : List (List Int)) (b m lo d : Nat) : List S60 := (List.range d).map (shV k0 k2 k5 l b lo (m / 2 ^ lo))
/-- The first node's level against the number's zeros. -/
theorem lev_le {m lo l : Nat} (hodd : m / 2 ^ lo % 2 = 1) (hdv : 2 ^ lo ∣ m) (hd : 2 ^ l ∣ m) : l ≤ lo := by
  apply Nat.le_of_not_lt
  intro hlt
  have h2 : 2 ^ (lo + 1) ∣ m := pow_dvd hlt hd
  obtain ⟨c, hc⟩ := h2
  rw [Nat.pow_succ, Nat.mul_assoc] at hc
  rw [hc, Nat.mul_div_cancel_left _ (pow_pos lo)] at hodd
  omega
theorem rgApp_ev2 {a0 a1 a2 a3 a4 a5 : Int} {l : List (List Int)} {b m e : Nat} (hl : ∀ r ∈ l, r.length ≤ 5000) (hbe : e ≤ b + 300) (hb : b ≤ m) (hme : m < e) (he : e < 2 ^ 64) {N1 R : List (Nat × Nat)} {n0 : Nat × Nat} (h1 : G b m N1) (h2 : G m e (n0 :: R)) (c1 : N1.length ≤ 1000) (c2 : R.length ≤ 1000) :
    ∃ vis N, G b e N ∧ Ev (fun k => rgApp k a0 a1 a2 a3 a4 a5 (b : Int) (m : Int) (e : Int) (N1.map (Tn a0 a2 a5 l b)) (Tn a0 a2 a5 l b n0) (R.map (Tn a0 a2 a5 l b)) []) (N.map (Tn a0 a2 a5 l b), vis)
      ∧ (b = m → vis = []) ∧ (b < m → ∃ lo d : Nat, vis = Vs_ a0 a2 a5 l b m lo d ∧ 2 ^ lo ∣ m ∧ m / 2 ^ lo % 2 = 1 ∧ ∀ D, Fits b e m D → ¬ Fits b e m (D + 1) → d = D - lo) := by
  cases h2 with
  | cons _ _ lv _ hd hle hmax t =>
  have hplv := pow_pos lv
  have hmlv : m / 2 ^ lv * 2 ^ lv = m := Nat.div_mul_cancel hd
  have ht : G ((m / 2 ^ lv + 1) * 2 ^ lv) e R := by rw [Nat.add_mul, Nat.one_mul, hmlv]; exact t
  by_cases hm0 : m = 0
  · subst hm0
    obtain rfl : b = 0 := by omega
    have hX : 18446744073709551615 ^^^ e < 2 ^ 64 := Nat.xor_lt_two_pow (by decide) he
    have hX2 := Lib.bitLen_le _ 64 (Nat.le_refl _) hX
    have hX1 : 0 < Lib.bitLen (18446744073709551615 ^^^ e) := (bl_lt _ 0 hX).2 (Nat.pos_of_ne_zero (fun h2 => by have := xor_zero'.1 h2; omega))
    have hn1 : N1 = [] := (h1.empty).2 rfl
    subst hn1
    have hgm : ∃ hi : Nat, hi < 64 ∧ compact_getMergePath.f ((0 : Nat) : Int) ((0 : Nat) : Int) (e : Int) = some ((64 : Int), (hi : Int)) := by
      have hw1 : IntKind.u64.wrap (((0 : Nat) : Int) - 1) = ((18446744073709551615 : Nat) : Int) := by decide
      have hx1 : Go.bits .xor .u64 ((18446744073709551615 : Nat) : Int) (e : Int) = ((18446744073709551615 ^^^ e : Nat) : Int) := bits_xor_u64_nat _ _ (by decide) (by omega)
      have htz : bits_TrailingZeros64.f ((0 : Nat) : Int) = some 64 := by
        unfold bits_TrailingZeros64.f
        rw [if_pos ⟨by omega, by omega⟩]
        rfl
      have hlen : bits_Len64.f ((18446744073709551615 ^^^ e : Nat) : Int) = some (Lib.bitLen (18446744073709551615 ^^^ e) : Int) := by
        unfold bits_Len64.f
        rw [if_pos ⟨by omega, by omega⟩, Int.toNat_natCast]
      have hend : ∀ t : Nat, 0 < t → t ≤ 64 → IntKind.u64.wrap (wrap64 ((t : Int) - 1)) = ((t - 1 : Nat) : Int) := fun t h1 h2 => by
        rw [show wrap64 ((t : Int) - 1) = ((t - 1 : Nat) : Int) by unfold wrap64; omega]
        exact u64_fit _ (by omega) (by omega)
      unfold compact_getMergePath.f
      rw [htz, Option.bind_some, if_pos (by rfl), hw1, hx1, hlen, Option.bind_some]
      have hw64 : IntKind.u64.wrap (64 : Int) = 64 := by decide
      rw [hw64]
      by_cases h64 : (Lib.bitLen (18446744073709551615 ^^^ e) : Int) < 64
      · rw [if_pos h64, hend _ hX1 hX2]
        exact ⟨_, by omega, rfl⟩
      · rw [if_neg h64]
        exact ⟨63, by omega, rfl⟩
    obtain ⟨hi, h64, hf⟩ := hgm
    refine ⟨[], (lv, 0 / 2 ^ lv) :: R, G.cons 0 e lv R hd hle hmax t, ?_, fun _ => rfl, fun h => absurd h (Nat.lt_irrefl _)⟩
    refine Ev.congr (f := fun _ => some (([] : List (List Int)) ++ Tn a0 a2 a5 l 0 (lv, 0 / 2 ^ lv) :: R.map (Tn a0 a2 a5 l 0), [])) (fun k => ?_) (Ev.now _)
    unfold rgApp
    rw [hf, Option.bind_some]
    dsimp only
    have hd0 : (hi : Int).toNat - (64 : Int).toNat = 0 := by rw [Int.toNat_natCast]; omega
    rw [hd0, Nat.pow_zero, Nat.mod_one, pop_none, if_pos ⟨by omega, by omega, by omega, by omega, by omega, by omega, by simp, by rw [List.length_map]; omega, by simp, Nat.zero_le _, Nat.zero_le _⟩]
    rfl
  · obtain ⟨lo, hi, hf, hlo, hhi, hdv, hodd, hiff⟩ := gmp2 hb (by omega) hme he
    have hlev := lev_le hodd hdv hd
    have hplo := pow_pos lo
    have hmlo : m / 2 ^ lo * 2 ^ lo = m := Nat.div_mul_cancel hdv
    have hdd : ∀ j, m / 2 ^ lo / 2 ^ j = m / 2 ^ (lo + j) := fun j => by rw [Nat.div_div_eq_div_mul, Nat.pow_add]
    have hFit : ∀ h x, x = m / 2 ^ h → ((b ≤ x / 2 * 2 ^ (h + 1) ∧ (x / 2 + 1) * 2 ^ (h + 1) ≤ e) ↔ Fits b e m (h + 1)) := fun h x hx => by
      unfold Fits
      rw [div_up, ← hx]
    have hC : b < m → ∀ D, Fits b e m D → ¬ Fits b e m (D + 1) → hi - lo = D - lo := fun _ D hD hD1 => by
      by_cases hDl : lo ≤ D
      · have h3 := mt (hiff D hDl).1 hD1
        by_cases hDl2 : D = lo
        · omega
        · have h4 := (hiff (D - 1) (by omega)).2 (by rw [show D - 1 + 1 = D by omega]; exact hD)
          omega
      · have h3 : ¬ lo < hi := fun h => hD1 (((hiff lo (Nat.le_refl _)).1 h).le (by omega))
        omega
    by_cases hd0 : hi ≤ lo
    · have hno : ¬ (b ≤ m / 2 ^ lv / 2 * 2 ^ (lv + 1) ∧ (m / 2 ^ lv / 2 + 1) * 2 ^ (lv + 1) ≤ e) := by
        rw [hFit lv _ rfl]
        intro hF
        by_cases h3 : 2 ^ (lv + 1) ∣ m
        · refine hmax ⟨h3, ?_⟩
          have := hF.2
          rw [Nat.add_mul, Nat.one_mul, Nat.div_mul_cancel h3] at this
          exact this
        · have hll : lv = lo := by
            apply Nat.le_antisymm hlev
            apply Nat.le_of_not_lt
            intro hlt
            exact h3 (pow_dvd hlt hdv)
          subst hll
          have := (hiff lv (Nat.le_refl _)).2 hF
          omega
      refine ⟨[], N1 ++ (lv, m / 2 ^ lv) :: R, G.join h1 hmlv.symm ht hno, ?_, fun _ => rfl, fun hbm => ⟨lo, 0, rfl, hdv, hodd, fun D hD hD1 => by have := hC hbm D hD hD1; omega⟩⟩
      refine Ev.congr (f := fun _ => some (N1.map (Tn a0 a2 a5 l b) ++ Tn a0 a2 a5 l b (lv, m / 2 ^ lv) :: R.map (Tn a0 a2 a5 l b), [])) (fun k => ?_) (by rw [List.map_append]; exact Ev.now _)
      unfold rgApp
      rw [hf, Option.bind_some]
      dsimp only
      have hd1 : (hi : Int).toNat - (lo : Int).toNat = 0 := by rw [Int.toNat_natCast, Int.toNat_natCast]; omega
      rw [hd1, Nat.pow_zero, Nat.mod_one, pop_none, if_pos ⟨by omega, by omega, by omega, by omega, by omega, by omega, by rw [List.length_map]; omega, by rw [List.length_map]; omega, by simp, Nat.zero_le _, Nat.zero_le _⟩]
      rfl
    · have hlt : lo < hi := by omega
      have hF := (hiff lo (Nat.le_refl _)).1 hlt
      have hll : lv = lo := by
        apply Nat.le_antisymm hlev
        apply Nat.le_of_not_lt
        intro hlt2
        refine hmax ⟨pow_dvd hlt2 hdv, ?_⟩
        have h3 := hF.2
        rw [div_up, (half_up _ lo hodd).1, Nat.add_mul, Nat.one_mul, hmlo] at h3
        have h4 := pow_mono hlt2
        rw [show lv + 1 = lv.succ from rfl] at *
        omega
      subst hll
      obtain ⟨Ln', Rn', p1, p2, p3, p4, p5⟩ := mg_T (hcI := fun k => rgH k a0 a1 a2 a3 a4 a5) (k0 := a0) (k2 := a2) (k5 := a5) (fun x y h => rgH_ev x y h) (b := b) (e := e) hl hbe (hi - lv) lv (m / 2 ^ lv) N1 R [] (by rw [hmlv]; exact h1) ht (Nat.lt_of_le_of_lt (Nat.div_le_self _ _) (by omega)) (fun j hj => by
        rw [hdd (j + 1), ← Nat.add_assoc]
        exact (hiff (lv + j) (by omega)).1 (by omega))
      have hno : ¬ (b ≤ m / 2 ^ hi / 2 * 2 ^ (hi + 1) ∧ (m / 2 ^ hi / 2 + 1) * 2 ^ (hi + 1) ≤ e) := by
        rw [hFit hi _ rfl]
        intro hF2
        exact Nat.lt_irrefl _ ((hiff hi (by omega)).2 hF2)
      rw [hdd, show lv + (hi - lv) = hi by omega] at p1 p2 p5
      refine ⟨Vs_ a0 a2 a5 l b m lv (hi - lv), Ln' ++ (hi, m / 2 ^ hi) :: Rn', G.join p1 rfl p2 hno, ?_, fun hbm => ?_, fun hbm => ⟨lv, hi - lv, rfl, hdv, hodd, hC hbm⟩⟩
      · refine Ev.congr (f := fun k => Mrg.mgF rgMk (rgH k a0 a1 a2 a3 a4 a5) (hi - lv) lv (m / 2 ^ lv) (N1.map (Tn a0 a2 a5 l b)) (R.map (Tn a0 a2 a5 l b)) (Tn a0 a2 a5 l b (lv, m / 2 ^ lv)) []) (fun k => ?_) (by rw [List.map_append]; exact p5)
        unfold rgApp
        rw [hf, Option.bind_some]
        dsimp only
        rw [Int.toNat_natCast, Int.toNat_natCast, Int.toNat_natCast, if_pos ⟨by omega, by omega, by omega, by omega, by omega, by omega, by rw [List.length_map]; omega, by rw [List.length_map]; omega, by simp, by rw [List.length_map]; omega, by rw [List.length_map]; omega⟩]
      · have h3 := hF.1
        rw [div_up, (half_up _ lv hodd).2] at h3
        have h5 : m / 2 ^ lv ≠ 0 := fun h => by rw [h] at hodd; exact absurd hodd (by decide)
        have h4 : (m / 2 ^ lv - 1) * 2 ^ lv < m / 2 ^ lv * 2 ^ lv := Nat.mul_lt_mul_of_pos_right (Nat.sub_lt (Nat.pos_of_ne_zero h5) Nat.one_pos) hplo
        rw [hmlv] at h4
        exact absurd (Nat.lt_of_le_of_lt h3 h4) (by rw [hbm]; exact Nat.lt_irrefl _)
end Go.Proofs.YtkmdkmlgahfcpaaDoor.M
