/- What the printed functions of ranges compute: the masks, and the nodes of a range as the greedy perfect trees. -/
import Derived.Test.YtkmdkmlgahfcpaaDoorM
import Derived.Test.YtkmdkmlgahfcpaaDoorNodes2
namespace Go.Proofs.YtkmdkmlgahfcpaaDoor.Ranges
open Go.RowKit Go.Proofs.YtkmdkmlgahfcpaaDoor.M Go.Proofs.YtkmdkmlgahfcpaaDoorW.PrintWords Go.Proofs.YtkmdkmlgahfcpaaDoorW.PrintLast Go.Proofs.YtkmdkmlgahfcpaaDoorW.PrintMore Go.Proofs.YtkmdkmlgahfcpaaDoor.Nodes
set_option linter.unusedVariables false

def cn (n : Nat × Nat) : S106 := ⟨n.1, n.2⟩

theorem len64 (x : Nat) (h : x < 2 ^ 64) : bits_Len64.f (x : Int) = some (Lib.bitLen x : Int) := by
  unfold bits_Len64.f
  rw [if_pos ⟨by omega, by omega⟩, Int.toNat_natCast]
theorem tz64 (x : Nat) (h : x < 2 ^ 64) : bits_TrailingZeros64.f (x : Int) = some (Lib.ctz 64 x : Int) := by
  unfold bits_TrailingZeros64.f
  rw [if_pos ⟨by omega, by omega⟩, Int.toNat_natCast]
theorem xor64 (a b : Nat) (ha : a < 2 ^ 64) (hb : b < 2 ^ 64) : Go.bits .xor .u64 (a : Int) (b : Int) = ((a ^^^ b : Nat) : Int) := bits_xor_u64_nat a b (by omega) (by omega)
theorem and64 (a b : Nat) (ha : a < 2 ^ 64) (hb : b < 2 ^ 64) : Go.bits .and .u64 (a : Int) (b : Int) = ((a &&& b : Nat) : Int) := bits_and_u64_nat a b (by omega) (by omega)

/-- The masks of a range are the lengths of its two parts, which meet at a multiple of a power of two greater than both. -/
theorem decompose (b e : Nat) (hbe : b ≤ e) (he : e < 2 ^ 64) :
    ∃ mid d, d ≤ 64 ∧ 2 ^ d ∣ mid ∧ b ≤ mid ∧ mid ≤ e ∧ mid - b < 2 ^ d ∧ e - mid < 2 ^ d ∧ compact_Decompose.f (b : Int) (e : Int) = some (((mid - b : Nat) : Int), ((e - mid : Nat) : Int)) := by
  by_cases h0 : b = 0
  · subst h0
    refine ⟨0, 64, by omega, Nat.dvd_zero _, by omega, by omega, by omega, by omega, ?_⟩
    unfold compact_Decompose.f
    rw [if_pos (by omega)]
    simp
  · obtain ⟨d, h1, h2, h3, h4, h5⟩ := decomp b e (by omega) hbe he
    have hp := pow_pos d
    have ee := Nat.div_add_mod e (2 ^ d)
    have lm := Nat.mod_lt e hp
    rw [Nat.mul_comm] at ee
    have hpd : 2 ^ d < 2 ^ 64 := pow_lt h2
    refine ⟨e / 2 ^ d * 2 ^ d, d, by omega, ⟨_, Nat.mul_comm _ _⟩, h3, by omega, h4, by omega, ?_⟩
    have hb1 : ((b : Int) - 1) = ((b - 1 : Nat) : Int) := by omega
    unfold compact_Decompose.f
    rw [if_neg (by omega), hb1, u64_nat _ (by omega), xor64 _ _ (by omega) he, len64 _ (Nat.xor_lt_two_pow (by omega) he), h1]
    simp only [Option.bind_some]
    have e1 : wrap64 (((d + 1 : Nat) : Int) - 1) = (d : Int) := by unfold wrap64; omega
    rw [e1, u64_nat d (by omega), if_pos (by omega), shl_one d h2]
    have e2 : (((2 ^ d : Nat) : Int) - 1) = ((2 ^ d - 1 : Nat) : Int) := by omega
    rw [e2, u64_nat _ (by omega), show (18446744073709551615 : Int) = ((2 ^ 64 - 1 : Nat) : Int) by omega, xor64 _ _ (by omega) (by omega), xor_ones _ (by omega), and64 _ _ (by omega) (by omega), and64 _ _ he (by omega),
      Nat.and_two_pow_sub_one_eq_mod, Nat.and_two_pow_sub_one_eq_mod, h5]
    congr 2
    omega

/-- The right part. -/
theorem rn_dn : ∀ (m p c : Nat) (acc : List S106), 2 ^ c ∣ p → m < 2 ^ c → p + m < 2 ^ 64 → acc.length + c < 8796093022208 →
    ∃ L, G p (p + m) L ∧ L.length = Lib.onesCount m ∧ Ev (fun k => compact_RangeNodes.l1 k acc (m : Int) (p : Int)) (acc ++ L.map cn) := by
  intro m
  induction m using Nat.strongRecOn with
  | _ m ih =>
    intro p c acc hc hm hpm hl
    by_cases h0 : m = 0
    · subst h0
      refine ⟨[], G.nil _, rfl, Ev.step (fun k => compact_RangeNodes.l1.eq_2 _ _ _ _) ?_⟩
      simp only [Int.natCast_zero, if_true, List.map_nil, List.append_nil]
      exact Ev.now _
    · obtain ⟨l, e1, hlc, hl64, hd, hle, hmax, hd2, hr, hx⟩ := dn_step p m c hc h0 hm (by omega)
      have hp := pow_pos l
      have hlm : 2 ^ l ≤ m := by omega
      have hpl : 2 ^ l < 2 ^ 64 := pow_lt hl64
      obtain ⟨L, hG, hLn, hE⟩ := ih (m - 2 ^ l) (by omega) (p + 2 ^ l) l (acc ++ [cn (l, p / 2 ^ l)]) hd2 hr (by omega) (by simp; omega)
      rw [show p + 2 ^ l + (m - 2 ^ l) = p + m by omega] at hG
      have hq : m / 2 ^ l % 2 = 1 := by
        have : m / 2 ^ l = 1 := by apply Nat.div_eq_of_lt_le <;> omega
        rw [this]
      refine ⟨(l, p / 2 ^ l) :: L, G.cons p _ l L hd hle hmax hG, by rw [List.length_cons, hLn, count_bit m l hl64 hq], Ev.step (fun k => compact_RangeNodes.l1.eq_2 _ _ _ _) ?_⟩
      have w1 : IntKind.u64.wrap (((l + 1 : Nat) : Int)) = ((l + 1 : Nat) : Int) := u64_nat _ (by omega)
      have w2 : IntKind.u64.wrap (((l + 1 : Nat) : Int) - 1) = (l : Int) := by rw [show (((l + 1 : Nat) : Int) - 1) = (l : Int) by omega]; exact u64_nat _ (by omega)
      have w3 : Go.bits .xor .u64 (m : Int) ((2 ^ l : Nat) : Int) = ((m - 2 ^ l : Nat) : Int) := by rw [xor64 _ _ (by omega) hpl, hx]
      have w4 : IntKind.u64.wrap ((p : Int) + ((2 ^ l : Nat) : Int)) = ((p + 2 ^ l : Nat) : Int) := by rw [← Int.natCast_add]; exact u64_nat _ (by omega)
      simp only [if_neg (show ¬ ((m : Int) = 0) by omega), len64 m (by omega), e1, Option.bind_some, w1, w2, if_pos (show (0 : Int) ≤ (l : Int) by omega), compact_NewNodeID.f, shr_u64 p l (by omega), shl_one l hl64, w3, w4,
        if_pos (show acc.length < 8796093022208 by omega)]
      simpa [cn] using hE

/-- The left part, and behind it the right one. -/
theorem rn_up : ∀ (m p d c mid e : Nat) (acc : List S106), p + m = mid → 2 ^ d ∣ mid → m < 2 ^ d → d ≤ 64 → 2 ^ c ∣ m → c ≤ d → mid ≤ e → e - mid < 2 ^ d → e < 2 ^ 64 → acc.length + (d - c) + d < 8796093022208 →
    ∃ L, G p e L ∧ L.length = Lib.onesCount m + Lib.onesCount (e - mid) ∧ Ev (fun k => compact_RangeNodes.l0 k acc (m : Int) ((e - mid : Nat) : Int) (p : Int)) (acc ++ L.map cn) := by
  intro m
  induction m using Nat.strongRecOn with
  | _ m ih =>
    intro p d c mid e acc hmid hd hm hd64 hcm hcd hme hem he hl
    by_cases h0 : m = 0
    · subst h0
      obtain ⟨L, hG, hLn, hE⟩ := rn_dn (e - mid) p d acc (by rw [show p = mid by omega]; exact hd) hem (by omega) (by omega)
      rw [show p + (e - mid) = e by omega] at hG
      refine ⟨L, hG, by rw [hLn, count_zero]; omega, Ev.step (fun k => compact_RangeNodes.l0.eq_2 _ _ _ _ _) ?_⟩
      simp only [Int.natCast_zero, if_true]
      exact hE
    · obtain ⟨l, q, e1, hq, hld, hl64, hdp, hle, hmax, _, hlm, hd2, hx⟩ := up_step p m d e (by rw [hmid]; exact hd) h0 hm (Nat.lt_of_lt_of_le hm (pow_mono hd64)) (by omega)
      have hp := pow_pos l
      have hpl : 2 ^ l < 2 ^ 64 := pow_lt hl64
      have hm64 : m < 2 ^ 64 := Nat.lt_of_lt_of_le hm (pow_mono hd64)
      have hcl : c ≤ l := by
        apply Nat.le_of_not_lt
        intro hlt
        obtain ⟨a, ha⟩ := pow_dvd (show l + 1 ≤ c by omega) hcm
        rw [Nat.pow_succ, Nat.mul_assoc] at ha
        have := Nat.eq_of_mul_eq_mul_left hp (hq.symm.trans ha)
        omega
      obtain ⟨L, hG, hLn, hE⟩ := ih (m - 2 ^ l) (by omega) (p + 2 ^ l) d (l + 1) mid e (acc ++ [cn (l, p / 2 ^ l)]) (by omega) hd (by omega) hd64 hd2 (by omega) hme hem he (by simp; omega)
      have hqb : m / 2 ^ l % 2 = 1 := by
        rw [hq, Nat.mul_div_cancel_left _ hp]; omega
      refine ⟨(l, p / 2 ^ l) :: L, G.cons p _ l L hdp hle hmax hG, by rw [List.length_cons, hLn, count_bit m l hl64 hqb]; omega, Ev.step (fun k => compact_RangeNodes.l0.eq_2 _ _ _ _ _) ?_⟩
      have w1 : IntKind.u64.wrap (l : Int) = (l : Int) := u64_nat _ (by omega)
      have w3 : Go.bits .xor .u64 (m : Int) ((2 ^ l : Nat) : Int) = ((m - 2 ^ l : Nat) : Int) := by rw [xor64 _ _ hm64 hpl, hx]
      have w4 : IntKind.u64.wrap ((p : Int) + ((2 ^ l : Nat) : Int)) = ((p + 2 ^ l : Nat) : Int) := by rw [← Int.natCast_add]; exact u64_nat _ (by omega)
      simp only [if_neg (show ¬ ((m : Int) = 0) by omega), tz64 m hm64, e1, Option.bind_some, w1, if_pos (show (0 : Int) ≤ (l : Int) by omega), compact_NewNodeID.f, shr_u64 p l (by omega), shl_one l hl64, w3, w4,
        if_pos (show acc.length < 8796093022208 by omega)]
      simpa [cn] using hE

theorem compact_nodes (b e : Nat) (hbe : b ≤ e) (he : e < 2 ^ 64) (acc : List S106) (hl : acc.length < 8796093022000) :
    ∃ L, G b e L ∧ L.length ≤ 128 ∧ Ev (fun k => compact_RangeNodes.f k (b : Int) (e : Int) acc) (acc ++ L.map cn) := by
  obtain ⟨mid, d, hd, hdm, hb, hm, h1, h2, hf⟩ := decompose b e hbe he
  obtain ⟨L, hG, hLn, hE⟩ := rn_up (mid - b) b d 0 mid e acc (by omega) hdm h1 hd (by simp) (by omega) hm h2 he (by omega)
  refine ⟨L, hG, ?_, ?_⟩
  · have a1 := count_le (mid - b)
    have a2 := count_le (e - mid)
    omega
  · unfold compact_RangeNodes.f
    simp only [hf, Option.bind_some]
    exact hE
end Go.Proofs.YtkmdkmlgahfcpaaDoor.Ranges
