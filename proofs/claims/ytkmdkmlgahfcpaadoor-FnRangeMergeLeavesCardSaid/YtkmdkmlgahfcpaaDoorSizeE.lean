/- How many nodes a range has, and the specification's list of them. -/
import Derived.Test.YtkmdkmlgahfcpaaDoorM
import Derived.Test.YtkmdkmlgahfcpaaDoorNodes2
namespace Go.Proofs.YtkmdkmlgahfcpaaDoor.Ranges
open Go Go.RowKit Go.Proofs.YtkmdkmlgahfcpaaDoor.M Go.Proofs.YtkmdkmlgahfcpaaDoor.Nodes Go.Proofs.YtkmdkmlgahfcpaaDoorW.PrintWords Go.Proofs.YtkmdkmlgahfcpaaDoorW.PrintLast Go.Proofs.YtkmdkmlgahfcpaaDoorW.PrintMore
set_option linter.unusedVariables false
set_option linter.unusedSimpArgs false
theorem len64 (x : Nat) (h : x < 2 ^ 64) : bits_Len64.f (x : Int) = some (Lib.bitLen x : Int) := by
  unfold bits_Len64.f
  rw [if_pos ⟨by omega, by omega⟩, Int.toNat_natCast]
theorem xor64 (a b : Nat) (ha : a < 2 ^ 64) (hb : b < 2 ^ 64) : Go.bits .xor .u64 (a : Int) (b : Int) = ((a ^^^ b : Nat) : Int) := bits_xor_u64_nat a b (by omega) (by omega)
theorem and64 (a b : Nat) (ha : a < 2 ^ 64) (hb : b < 2 ^ 64) : Go.bits .and .u64 (a : Int) (b : Int) = ((a &&& b : Nat) : Int) := bits_and_u64_nat a b (by omega) (by omega)

theorem decompose (b e : Nat) (hbe : b ≤ e) (he : e < 2 ^ 64) :
    ∃ mid d, d ≤ 64 ∧ 2 ^ d ∣ mid ∧ b ≤ mid ∧ mid ≤ e ∧ mid - b < 2 ^ d ∧ e - mid < 2 ^ d ∧ compact_Decompose.f (b : Int) (e : Int) = some (((mid - b : Nat) : Int), ((e - mid : Nat) : Int)) := by
  by_cases h0 : b = 0
  · subst h0
    refine ⟨0, 64, by omega, Nat.dvd_zero _, by omega, by omega, by omega, by omega, ?_⟩
    unfold compact_Decompose.f
    rw [if_pos (by omega)]
    simp
  · obtain ⟨d, h1, h2, h3, h4, h5⟩ := decomp b e (by omega) hbe he
    have hp := pow_pos d
    have ee := Nat.div_add_mod e (2 ^ d)
    have lm := Nat.mod_lt e hp
    rw [Nat.mul_comm] at ee
    have hpd : 2 ^ d < 2 ^ 64 := pow_lt h2
    refine ⟨e / 2 ^ d * 2 ^ d, d, by omega, ⟨_, Nat.mul_comm _ _⟩, h3, by omega, h4, by omega, ?_⟩
    have hb1 : ((b : Int) - 1) = ((b - 1 : Nat) : Int) := by omega
    unfold compact_Decompose.f
    rw [if_neg (by omega), hb1, u64_nat _ (by omega), xor64 _ _ (by omega) he, len64 _ (Nat.xor_lt_two_pow (by omega) he), h1]
    simp only [Option.bind_some]
    have e1 : wrap64 (((d + 1 : Nat) : Int) - 1) = (d : Int) := by unfold wrap64; omega
    rw [e1, u64_nat d (by omega), if_pos (by omega), shl_one d h2]
    have e2 : (((2 ^ d : Nat) : Int) - 1) = ((2 ^ d - 1 : Nat) : Int) := by omega
    rw [e2, u64_nat _ (by omega), show (18446744073709551615 : Int) = ((2 ^ 64 - 1 : Nat) : Int) by omega, xor64 _ _ (by omega) (by omega), xor_ones _ (by omega), and64 _ _ (by omega) (by omega), and64 _ _ he (by omega),
      Nat.and_two_pow_sub_one_eq_mod, Nat.and_two_pow_sub_one_eq_mod, h5]
    congr 2
    omega

def im (n : Nat × Nat) : S54 := ⟨n.1, n.2⟩
theorem rn_dnP : ∀ (m p c : Nat), 2 ^ c ∣ p → m < 2 ^ c → p + m < 2 ^ 64 → ∃ L, G p (p + m) L ∧ L.length = Lib.onesCount m := by
  intro m
  induction m using Nat.strongRecOn with
  | _ m ih =>
    intro p c hc hm hpm
    by_cases h0 : m = 0
    · subst h0
      exact ⟨[], G.nil _, rfl⟩
    · obtain ⟨l, e1, hlc, hl64, hd, hle, hmax, hd2, hr, hx⟩ := dn_step p m c hc h0 hm (by omega)
      have hp := pow_pos l
      have hlm : 2 ^ l ≤ m := by omega
      obtain ⟨L, hG, hLn⟩ := ih (m - 2 ^ l) (by omega) (p + 2 ^ l) l hd2 hr (by omega)
      rw [show p + 2 ^ l + (m - 2 ^ l) = p + m by omega] at hG
      have hq : m / 2 ^ l % 2 = 1 := by
        have : m / 2 ^ l = 1 := by apply Nat.div_eq_of_lt_le <;> omega
        rw [this]
      exact ⟨(l, p / 2 ^ l) :: L, G.cons p _ l L hd hle hmax hG, by rw [List.length_cons, hLn, count_bit m l hl64 hq]⟩
theorem rn_upP : ∀ (m p d mid e : Nat), p + m = mid → 2 ^ d ∣ mid → m < 2 ^ d → d ≤ 64 → mid ≤ e → e - mid < 2 ^ d → e < 2 ^ 64 → ∃ L, G p e L ∧ L.length = Lib.onesCount m + Lib.onesCount (e - mid) := by
  intro m
  induction m using Nat.strongRecOn with
  | _ m ih =>
    intro p d mid e hmid hd hm hd64 hme hem he
    by_cases h0 : m = 0
    · subst h0
      obtain ⟨L, hG, hLn⟩ := rn_dnP (e - mid) p d (by rw [show p = mid by omega]; exact hd) hem (by omega)
      rw [show p + (e - mid) = e by omega] at hG
      exact ⟨L, hG, by rw [hLn, count_zero]; omega⟩
    · obtain ⟨l, q, e1, hq, hld, hl64, hdp, hle, hmax, _, hlm, hd2, hx⟩ := up_step p m d e (by rw [hmid]; exact hd) h0 hm (Nat.lt_of_lt_of_le hm (pow_mono hd64)) (by omega)
      have hp := pow_pos l
      obtain ⟨L, hG, hLn⟩ := ih (m - 2 ^ l) (by omega) (p + 2 ^ l) d mid e (by omega) hd (by omega) hd64 hme hem he
      have hqb : m / 2 ^ l % 2 = 1 := by
        rw [hq, Nat.mul_div_cancel_left _ hp]; omega
      exact ⟨(l, p / 2 ^ l) :: L, G.cons p _ l L hdp hle hmax hG, by rw [List.length_cons, hLn, count_bit m l hl64 hqb]; omega⟩
theorem size_G (b e : Nat) (hbe : b ≤ e) (he : e < 2 ^ 64) : ∃ L, G b e L ∧ L.length ≤ 128 ∧ compact_RangeSize.f (b : Int) (e : Int) = some (L.length : Int) := by
  obtain ⟨mid, d, hd, hdm, hb, hm, h1, h2, hf⟩ := decompose b e hbe he
  obtain ⟨L, hG, hLn⟩ := rn_upP (mid - b) b d mid e (by omega) hdm h1 hd hm h2 he
  have a1 := count_le (mid - b)
  have a2 := count_le (e - mid)
  refine ⟨L, hG, by omega, ?_⟩
  unfold compact_RangeSize.f
  have hp : 2 ^ d ≤ 2 ^ 64 := pow_mono hd
  have c1 : bits_OnesCount64.f (((mid - b : Nat) : Int)) = some (Lib.onesCount (mid - b) : Int) := by
    unfold bits_OnesCount64.f
    rw [if_pos ⟨by omega, by omega⟩, Int.toNat_natCast]
  have c2 : bits_OnesCount64.f (((e - mid : Nat) : Int)) = some (Lib.onesCount (e - mid) : Int) := by
    unfold bits_OnesCount64.f
    rw [if_pos ⟨by omega, by omega⟩, Int.toNat_natCast]
  simp only [hf, Option.bind_some, c1, c2]
  have : wrap64 (((Lib.onesCount (mid - b) : Nat) : Int) + ((Lib.onesCount (e - mid) : Nat) : Int)) = (L.length : Int) := by unfold wrap64; omega
  rw [this]
theorem sub_u64 (a b : Nat) (h : b ≤ a) (ha : a < 18446744073709551616) : IntKind.u64.wrap ((a : Int) - (b : Int)) = ((a - b : Nat) : Int) := by
  rw [show ((a : Int) - (b : Int)) = ((a - b : Nat) : Int) by omega]; exact u64_nat _ (by omega)
theorem add_u64 (a b : Nat) (ha : a + b < 18446744073709551616) : IntKind.u64.wrap ((a : Int) + (b : Int)) = ((a + b : Nat) : Int) := by
  rw [← Int.natCast_add]; exact u64_nat _ ha
theorem land_one (x : Nat) : x &&& 1 = x % 2 := Nat.and_two_pow_sub_one_eq_mod x 1
theorem and_one (a : Nat) (h : a < 2 ^ 64) : Go.bits .and .u64 (a : Int) 1 = ((a % 2 : Nat) : Int) := by
  rw [show (1 : Int) = ((1 : Nat) : Int) from rfl, and64 _ _ h (by omega), land_one]

theorem level_ev (p e l : Nat) (acc : List S54) (r : List S54) (he : e < 2 ^ 64) (hd : 2 ^ l ∣ p) (hle : p + 2 ^ l ≤ e) (hmax : ¬ (2 ^ (l + 1) ∣ p ∧ p + 2 ^ (l + 1) ≤ e)) (hacc : acc.length < 1000000)
    (hE : Ev (fun k => spec_Nodes.l0 k (acc ++ [im (l, p / 2 ^ l)]) ((p + 2 ^ l : Nat) : Int) (e : Int)) r) : ∀ (m j : Nat), j + m = l → Ev (fun k => spec_Nodes.l1 k acc (j : Int) (p : Int) (e : Int)) r := by
  have hl : l < 64 := by
    apply Nat.lt_of_not_le
    intro h
    have := pow_mono h
    omega
  intro m
  induction m with
  | zero =>
    intro j hj
    obtain rfl : j = l := by omega
    refine Ev.step (fun k => spec_Nodes.l1.eq_2 _ _ _ _ _) ?_
    have c1 : shr .u64 (p : Int) (j : Int) = ((p / 2 ^ j : Nat) : Int) := shr_u64 p j (by omega)
    have c2 := and_one (p / 2 ^ j) (Nat.lt_of_le_of_lt (Nat.div_le_self _ _) (by omega))
    have c3 : IntKind.u64.wrap ((p : Int) + ((2 ^ j : Nat) : Int)) = ((p + 2 ^ j : Nat) : Int) := add_u64 p (2 ^ j) (by omega)
    have c4 : IntKind.u64.wrap ((j : Int) + 1) = ((j + 1 : Nat) : Int) := add_u64 j 1 (by omega)
    have c5 : IntKind.u64.wrap ((e : Int) - (p : Int)) = ((e - p : Nat) : Int) := sub_u64 e p (by omega) (by omega)
    simp only [c1, c2, shl_one j (by omega), c3, c4, c5, if_pos (show (0 : Int) ≤ (j : Int) by omega), if_pos (show (0 : Int) ≤ ((j + 1 : Nat) : Int) by omega), if_pos (show acc.length < 8796093022208 by omega)]
    by_cases h63 : j < 63
    · simp only [if_pos (show (j : Int) < 63 by omega), shl_one (j + 1) (by omega)]
      by_cases h0 : p / 2 ^ j % 2 = 0
      · have hdv : 2 ^ (j + 1) ∣ p := by
          obtain ⟨a, rfl⟩ := hd
          rw [Nat.mul_div_cancel_left _ (pow_pos j)] at h0
          exact ⟨a / 2, by rw [Nat.pow_succ, Nat.mul_assoc]; congr 1; omega⟩
        simp only [if_pos (show ((p / 2 ^ j % 2 : Nat) : Int) = 0 by omega)]
        have hgt : ¬ p + 2 ^ (j + 1) ≤ e := fun h => hmax ⟨hdv, h⟩
        simp only [if_neg (show ¬ (((2 ^ (j + 1) : Nat) : Int) ≤ ((e - p : Nat) : Int)) by omega)]
        exact hE
      · simp only [if_neg (show ¬ (((p / 2 ^ j % 2 : Nat) : Int) = 0) by omega)]
        exact hE
    · simp only [if_neg (show ¬ ((j : Int) < 63) by omega)]
      exact hE
  | succ m ih =>
    intro j hj
    refine Ev.step (fun k => spec_Nodes.l1.eq_2 _ _ _ _ _) ?_
    have c1 : shr .u64 (p : Int) (j : Int) = ((p / 2 ^ j : Nat) : Int) := shr_u64 p j (by omega)
    have c2 := and_one (p / 2 ^ j) (Nat.lt_of_le_of_lt (Nat.div_le_self _ _) (by omega))
    have c4 : IntKind.u64.wrap ((j : Int) + 1) = ((j + 1 : Nat) : Int) := add_u64 j 1 (by omega)
    have c5 : IntKind.u64.wrap ((e : Int) - (p : Int)) = ((e - p : Nat) : Int) := sub_u64 e p (by omega) (by omega)
    have h0 : p / 2 ^ j % 2 = 0 := by
      obtain ⟨a, ha⟩ := pow_dvd (show j + 1 ≤ l by omega) hd
      rw [ha, Nat.pow_succ, Nat.mul_assoc, Nat.mul_div_cancel_left _ (pow_pos j)]
      omega
    have hle2 := pow_mono (show j + 1 ≤ l by omega)
    simp only [c1, c2, c4, c5, if_pos (show (j : Int) < 63 by omega), if_pos (show (0 : Int) ≤ (j : Int) by omega), if_pos (show (0 : Int) ≤ ((j + 1 : Nat) : Int) by omega), if_pos (show ((p / 2 ^ j % 2 : Nat) : Int) = 0 by omega), shl_one (j + 1) (by omega),
      if_pos (show ((2 ^ (j + 1) : Nat) : Int) ≤ ((e - p : Nat) : Int) by omega)]
    exact ih (j + 1) (by omega)
theorem snodes_loop {p e : Nat} {L : List (Nat × Nat)} (h : G p e L) (he : e < 2 ^ 64) : ∀ (acc : List S54), acc.length + L.length < 1000000 →
    Ev (fun k => spec_Nodes.l0 k acc (p : Int) (e : Int)) (acc ++ L.map im) := by
  induction h with
  | nil e =>
    intro acc hl
    refine Ev.step (fun k => spec_Nodes.l0.eq_2 _ _ _ _) ?_
    simp only [if_neg (show ¬ ((e : Int) < (e : Int)) by omega), List.map_nil, List.append_nil]
    exact Ev.now _
  | cons p e l L hd hle hmax t ih =>
    intro acc hl
    simp only [List.length_cons] at hl
    have hp := pow_pos l
    refine Ev.step (fun k => spec_Nodes.l0.eq_2 _ _ _ _) ?_
    simp only [if_pos (show (p : Int) < (e : Int) by omega)]
    have := ih he (acc ++ [im (l, p / 2 ^ l)]) (by simp; omega)
    rw [List.append_assoc] at this
    exact level_ev p e l acc _ he hd hle hmax (by omega) this l 0 (by omega)
theorem specNodes_ev {p e : Nat} {L : List (Nat × Nat)} (h : G p e L) (he : e < 2 ^ 64) (hl : L.length < 100000) : Ev (fun k => spec_Nodes.f k (p : Int) (e : Int)) (L.map im) := by
  have := snodes_loop h he [] (by simp; omega)
  simpa [spec_Nodes.f] using this

end Go.Proofs.YtkmdkmlgahfcpaaDoor.Ranges
