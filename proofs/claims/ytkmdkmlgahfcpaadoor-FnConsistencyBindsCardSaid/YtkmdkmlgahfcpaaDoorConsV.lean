/- What VerifyConsistency and the reference answer, of a first log that is not empty: one pure verdict. -/
import Derived.Test.YtkmdkmlgahfcpaaDoorConsP
import Derived.Test.YtkmdkmlgahfcpaaDoorHcInj
namespace Go.Proofs.YtkmdkmlgahfcpaaDoor.Log
open Go Go.RowKit Go.Proofs.YtkmdkmlgahfcpaaDoor.M Go.Proofs.YtkmdkmlgahfcpaaDoor.Nodes Go.Proofs.YtkmdkmlgahfcpaaDoorW.PrintMore Go.Proofs.YtkmdkmlgahfcpaaDoorW.PrintWords Go.Proofs.YtkmdkmlgahfcpaaDoorW.PrintLast
set_option linter.unusedVariables false
set_option linter.unusedSimpArgs false
def sameT (a b : List Int) : Bool := (strOfNums a).toList == (strOfNums b).toList
theorem tzf (s : Nat) (h : s < 18446744073709551616) : bits_TrailingZeros64.f (s : Int) = some (Lib.ctz 64 s : Int) := by
  unfold bits_TrailingZeros64.f
  rw [if_pos ⟨by omega, by omega⟩, Int.toNat_natCast]
theorem shl_pow (t : Nat) (h : t < 64) : shl .u64 1 (t : Int) = ((2 ^ t : Nat) : Int) := by
  unfold shl
  rw [Int.toNat_natCast, show IntKind.bits .u64 = 64 from rfl, Nat.min_eq_left (by omega), Int.one_mul]
  have h1 : 2 ^ t < 2 ^ 64 := Nat.pow_lt_pow_right (by decide) h
  rw [show ((2 : Int) ^ t) = ((2 ^ t : Nat) : Int) by simp]
  exact u64_nat _ (by omega)
section
variable (k0 k1 k2 k3 k4 k5 : Int)
/-- What the two roots answer. -/
def tailV (f g r1 r2 : List Int) : Int × List Int × List Int × List Int := if sameT f r1 = true then (if sameT g r2 = true then (0, [], [], []) else (1, [], r2, g)) else (1, [], r1, f)
theorem tail_ev (seed : List Int) (R : List (List Int)) (a m : Nat) (r1 r2 : List Int) (ha : a ≤ R.length) (hR : R.length ≤ 1000) (hm : m < 18446744073709551616) (hs : seed.length + tot R ≤ 70368744177664) :
    Ev (fun k => vcTail k k0 k1 k2 k3 k4 k5 seed R (a : Int) (m : Int) r1 r2) (tailV (chB (hc k0 k2 k5) (chR (hc k0 k2 k5) m 0 seed (R.take a)) (R.drop a)) (chB (hc k0 k2 k5) (chI (hc k0 k2 k5) m 0 seed (R.take a)) (R.drop a)) r1 r2) := by
  unfold vcTail
  have hsz : tot (R.take a) + tot (R.drop a) = tot R := by rw [← tot_append, List.take_append_drop]
  have hl1 : (R.take a).length ≤ 1000 := by rw [List.length_take]; omega
  have hl2 : (R.drop a).length ≤ 1000 := by rw [List.length_drop]; omega
  have hcr := chR_len k0 k2 k5 m (R.take a) 0 seed
  have hci := chI_len k0 k2 k5 m (R.take a) 0 seed
  simp only [toNat_cast]
  generalize R.take a = T at *
  generalize R.drop a = D at *
  refine Ev.bind (right_ev k0 k1 k2 k3 k4 k5 m hm T (by omega) seed (by omega)) (Ev.bind (border_ev k0 k1 k2 k3 k4 k5 D (by omega) _ (by omega)) ?_)
  have hE1 := inner_ev k0 k1 k2 k3 k4 k5 m hm T (by omega) seed (by omega)
  have hE2 := border_ev k0 k1 k2 k3 k4 k5 D (by omega) (chI (hc k0 k2 k5) m 0 seed T) (by omega)
  generalize chB (hc k0 k2 k5) (chR (hc k0 k2 k5) m 0 seed T) D = f
  generalize chI (hc k0 k2 k5) m 0 seed T = g0 at *
  generalize chB (hc k0 k2 k5) g0 D = g at *
  unfold bytes_Equal.f tailV
  simp only [Option.bind_some]
  change Ev (fun n => if sameT f r1 = true then _ else _) _
  by_cases h1 : sameT f r1 = true
  · simp only [if_pos h1]
    refine Ev.bind hE1 (Ev.bind hE2 ?_)
    change Ev (fun n => if sameT g r2 = true then some (0, [], [], []) else some (1, [], r2, g)) _
    by_cases h2 : sameT g r2 = true
    · simp only [if_pos h2]
      exact Ev.now _
    · simp only [if_neg h2]
      exact Ev.now _
  · simp only [if_neg h1]
    exact Ev.now _
/-- Seed and rest of a proof. -/
theorem parts_of (s n : Nat) (h0 : 0 < s) (h1 : s < n) (hn : n < 18446744073709551616) (P : List (List Int)) (r1 : List Int) (hP : P.length = (proofP s 0 n true).length) :
    Lib.ctz 64 s < inner (s - 1) n ∧ ∃ (sd : List Int) (R : List (List Int)), P = pre true s (Lib.ctz 64 s) sd ++ R ∧ (s = 2 ^ Lib.ctz 64 s → sd = r1) ∧ R.length = inner (s - 1) n - Lib.ctz 64 s + border (s - 1) n ∧ r1.length + tot R ≤ r1.length + tot P ∧ sd.length + tot R ≤ r1.length + tot P ∧
      rootsP (hc k0 k2 k5) [] s 0 n true P r1 = (chB (hc k0 k2 k5) (chR (hc k0 k2 k5) ((s - 1) / 2 ^ Lib.ctz 64 s) 0 sd (R.take (inner (s - 1) n - Lib.ctz 64 s))) (R.drop (inner (s - 1) n - Lib.ctz 64 s)), chB (hc k0 k2 k5) (chI (hc k0 k2 k5) ((s - 1) / 2 ^ Lib.ctz 64 s) 0 sd (R.take (inner (s - 1) n - Lib.ctz 64 s))) (R.drop (inner (s - 1) n - Lib.ctz 64 s))) := by
  have ht := tz_ex s h0 (by omega)
  obtain ⟨l0, l1, l2⟩ := cons_parts (hc k0 k2 k5) [] n s (Lib.ctz 64 s) 0 true h0 h1 (by omega) ht.1
  rw [Nat.zero_add] at l1 l2
  refine ⟨l0, ?_⟩
  rw [l1, pre_len] at hP
  by_cases hp : s = 2 ^ Lib.ctz 64 s
  · rw [if_pos ⟨rfl, hp⟩] at hP
    have e : ∀ sd : List Int, pre true s (Lib.ctz 64 s) sd = [] := fun sd => by unfold pre; rw [if_pos ⟨rfl, hp⟩]
    refine ⟨r1, P, by rw [e]; rfl, fun _ => rfl, by omega, Nat.le_refl _, Nat.le_refl _, ?_⟩
    have := l2 r1 r1 P (by omega) (fun _ => rfl)
    rwa [e] at this
  · rw [if_neg (fun h => hp h.2)] at hP
    have e : ∀ sd : List Int, pre true s (Lib.ctz 64 s) sd = [sd] := fun sd => by unfold pre; rw [if_neg (fun h => hp h.2)]
    cases P with
    | nil => simp at hP; omega
    | cons sd R =>
      simp only [List.length_cons] at hP
      refine ⟨sd, R, by rw [e]; rfl, fun h => absurd h hp, by omega, by rw [tot_cons]; omega, by rw [tot_cons]; omega, ?_⟩
      have := l2 sd r1 R (by omega) (fun h => absurd h.2 hp)
      rwa [e] at this
theorem vcons_good (s n : Nat) (h0 : 0 < s) (h1 : s < n) (hn : n < 18446744073709551616) (P : List (List Int)) (r1 r2 : List Int) (hP : P.length = (proofP s 0 n true).length) (hs : r1.length + tot P ≤ 70368744177664) :
    Ev (fun k => proof_VerifyConsistency.f k k0 k1 k2 k3 k4 k5 (s : Int) (n : Int) P r1 r2) (tailV (rootsP (hc k0 k2 k5) [] s 0 n true P r1).1 (rootsP (hc k0 k2 k5) [] s 0 n true P r1).2 r1 r2) := by
  obtain ⟨l0, sd, R, hPe, hsd, hRl, hb1, hb2, hX⟩ := parts_of k0 k2 k5 s n h0 h1 hn P r1 hP
  have ht := (tz_ex s h0 (by omega)).2
  have hd := decomp (s - 1) n (by omega) hn
  have h64 := border_le (s - 1) n
  have h65 := inner_le (s - 1) n (by omega) hn
  rw [hX]
  generalize inner (s - 1) n = A at *
  generalize border (s - 1) n = B at *
  have htz := tzf s (by omega)
  have hsh := shl_pow _ ht
  have hmk := shr_nat (s - 1) (Lib.ctz 64 s) (by omega)
  have hpl := pre_le true s (Lib.ctz 64 s) sd
  have hPl : P.length = (pre true s (Lib.ctz 64 s) sd).length + R.length := by rw [hPe, List.length_append]
  unfold proof_VerifyConsistency.f
  generalize hT : Lib.ctz 64 s = T at *
  have ew : IntKind.u64.wrap ((s : Int) - 1) = ((s - 1 : Nat) : Int) := sub_u64 s 1 (by omega) (by omega)
  simp only [if_neg (show ¬ (n : Int) < (s : Int) by omega), if_neg (show ¬ (s : Int) = (n : Int) by omega), if_neg (show ¬ (s : Int) = 0 by omega), if_neg (show ¬ P.length = 0 by omega), ew, hd, htz]
  refine Ev.bind (g := fun _ => some ((A : Int), (B : Int))) (Ev.now _) ?_
  dsimp only
  refine Ev.bind (g := fun _ => some (T : Int)) (Ev.now _) ?_
  simp only [if_pos (show 0 ≤ (T : Int) ∧ (T : Int) ≤ (A : Int) ∧ (A : Int) ≤ 64 ∧ 0 ≤ (B : Int) ∧ (B : Int) ≤ 64 by omega), hsh, hmk]
  have eA : ((A : Int) - (T : Int)) = ((A - T : Nat) : Int) := by omega
  have hmm : (s - 1) / 2 ^ T < 18446744073709551616 := Nat.lt_of_le_of_lt (Nat.div_le_self _ _) (by omega)
  rw [eA]
  by_cases hp : s = 2 ^ T
  · have e : pre true s T sd = [] := by unfold pre; rw [if_pos ⟨rfl, hp⟩]
    rw [e] at hPe hPl
    rw [List.nil_append] at hPe
    subst hPe
    obtain rfl := hsd hp
    simp only [if_pos (show (s : Int) = ((2 ^ T : Nat) : Int) by omega), if_pos (show (P.length : Int) = ((A - T : Nat) : Int) + (B : Int) by omega)]
    exact tail_ev k0 k1 k2 k3 k4 k5 _ _ _ _ _ _ (by omega) (by omega) hmm (by omega)
  · have e : pre true s T sd = [sd] := by unfold pre; rw [if_neg (fun h => hp h.2)]
    rw [e] at hPe hPl
    simp only [List.length_singleton] at hPl
    have g1 : P.getD 0 [] = sd := by rw [hPe]; rfl
    have g2 : P.drop 1 = R := by rw [hPe]; rfl
    simp only [if_neg (show ¬ (s : Int) = ((2 ^ T : Nat) : Int) by omega), if_pos (show (P.length : Int) = 1 + ((A - T : Nat) : Int) + (B : Int) by omega), g1, g2]
    exact tail_ev k0 k1 k2 k3 k4 k5 _ _ _ _ _ _ (by omega) (by omega) hmm (by omega)
theorem vcons_bad (s n : Nat) (h0 : 0 < s) (hs : s < 18446744073709551616) (hn : n < 18446744073709551616) (P : List (List Int)) (r1 r2 : List Int) (h : n < s ∨ (s = n ∧ 0 < P.length) ∨ (s < n ∧ ¬ P.length = (proofP s 0 n true).length)) :
    Ev (fun k => proof_VerifyConsistency.f k k0 k1 k2 k3 k4 k5 (s : Int) (n : Int) P r1 r2) (2, [], [], []) := by
  unfold proof_VerifyConsistency.f
  rcases h with h | ⟨h, h2⟩ | ⟨h, h2⟩
  · simp only [if_pos (show (n : Int) < (s : Int) by omega)]
    exact Ev.now _
  · simp only [if_neg (show ¬ (n : Int) < (s : Int) by omega), if_pos (show (s : Int) = (n : Int) by omega), if_pos h2]
    exact Ev.now _
  · simp only [if_neg (show ¬ (n : Int) < (s : Int) by omega), if_neg (show ¬ (s : Int) = (n : Int) by omega), if_neg (show ¬ (s : Int) = 0 by omega)]
    by_cases h3 : P.length = 0
    · simp only [if_pos h3]
      exact Ev.now _
    · have ht := tz_ex s h0 (by omega)
      obtain ⟨l0, l1, _⟩ := cons_parts (hc k0 k2 k5) [] n s (Lib.ctz 64 s) 0 true h0 h (by omega) ht.1
      rw [Nat.zero_add] at l1
      rw [l1, pre_len] at h2
      have ht := ht.2
      have hd := decomp (s - 1) n (by omega) hn
      have h64 := border_le (s - 1) n
      have h65 := inner_le (s - 1) n (by omega) hn
      generalize inner (s - 1) n = A at *
      generalize border (s - 1) n = B at *
      have htz := tzf s (by omega)
      have hsh := shl_pow _ ht
      generalize hT : Lib.ctz 64 s = T at *
      have ew : IntKind.u64.wrap ((s : Int) - 1) = ((s - 1 : Nat) : Int) := sub_u64 s 1 (by omega) (by omega)
      simp only [if_neg h3, ew, hd, htz]
      refine Ev.bind (g := fun _ => some ((A : Int), (B : Int))) (Ev.now _) ?_
      dsimp only
      refine Ev.bind (g := fun _ => some (T : Int)) (Ev.now _) ?_
      simp only [if_pos (show 0 ≤ (T : Int) ∧ (T : Int) ≤ (A : Int) ∧ (A : Int) ≤ 64 ∧ 0 ≤ (B : Int) ∧ (B : Int) ≤ 64 by omega), hsh]
      by_cases hp : s = 2 ^ T
      · rw [if_pos ⟨rfl, hp⟩] at h2
        simp only [if_pos (show (s : Int) = ((2 ^ T : Nat) : Int) by omega), if_neg (show ¬ (P.length : Int) = (A : Int) - (T : Int) + (B : Int) by omega)]
        exact Ev.now _
      · rw [if_neg (fun h => hp h.2)] at h2
        simp only [if_neg (show ¬ (s : Int) = ((2 ^ T : Nat) : Int) by omega), if_neg (show ¬ (P.length : Int) = 1 + ((A : Int) - (T : Int)) + (B : Int) by omega)]
        exact Ev.now _
/-- The verdict, in plain words. -/
def vcV (s n : Nat) (P : List (List Int)) (r1 r2 : List Int) : Int × List Int :=
  if n < s then (2, []) else if s = n then (if 0 < P.length then (2, []) else if sameT r1 r2 = true then (0, []) else (1, r1))
  else if P.length = (proofP s 0 n true).length then (if sameT (rootsP (hc k0 k2 k5) [] s 0 n true P r1).1 r1 = true then (if sameT (rootsP (hc k0 k2 k5) [] s 0 n true P r1).2 r2 = true then (0, []) else (1, (rootsP (hc k0 k2 k5) [] s 0 n true P r1).2)) else (1, (rootsP (hc k0 k2 k5) [] s 0 n true P r1).1)) else (2, [])
theorem verdict_ok (k : Nat) : impl_verdict.f k 0 [] [] [] = some (0, []) := rfl
theorem verdict_no (k : Nat) : impl_verdict.f k 2 [] [] [] = some (2, []) := rfl
theorem verdict_other (k : Nat) (e c : List Int) (h : c.length < 140737488355328) : impl_verdict.f k 1 [] e c = some (1, c) := by
  unfold impl_verdict.f
  have hne : ¬ ((1 : Int) = 0) := by decide
  rw [if_neg hne, if_pos rfl, if_pos h]
theorem implCons_ev (s n : Nat) (h0 : 0 < s) (hs : s < 18446744073709551616) (hn : n < 18446744073709551616) (P : List (List Int)) (r1 r2 : List Int) (hfit : Fit P) (hl1 : r1.length ≤ 2147483647) (hl2 : r2.length ≤ 2147483647) (hb : r1.length + tot P ≤ 70368744177664) :
    Ev (fun k => impl_VerifyConsistency.f k k0 k1 k2 k3 k4 k5 (s : Int) (n : Int) P r1 r2) (vcV k0 k2 k5 s n P r1 r2) := by
  unfold impl_VerifyConsistency.f
  have e1 : ([] : List Int).length + r1.length < 140737488355328 := by rw [List.length_nil]; omega
  have e2 : ([] : List Int).length + r2.length < 140737488355328 := by rw [List.length_nil]; omega
  simp only [Option.bind_some, if_pos e1, if_pos e2, List.nil_append]
  refine Ev.bind (texts_ev P hfit.1 (fun r hr => by have := hfit.2 r hr; omega)) ?_
  have fin : ∀ (x : Int × List Int × List Int × List Int) (y : Int × List Int), Ev (fun k => proof_VerifyConsistency.f k k0 k1 k2 k3 k4 k5 (s : Int) (n : Int) P r1 r2) x → (∀ k, impl_verdict.f k x.1 x.2.1 x.2.2.1 x.2.2.2 = some y) →
      Ev (fun k => (proof_VerifyConsistency.f k k0 k1 k2 k3 k4 k5 (s : Int) (n : Int) P r1 r2).bind fun b => (impl_verdict.f k b.1 b.2.1 b.2.2.1 b.2.2.2).bind fun c => some (c.1, c.2)) y := fun x y h1 h2 =>
    Ev.bind h1 (Ev.congr (f := fun _ => some y) (fun k => by rw [h2 k]; rfl) (Ev.now y))
  unfold vcV
  by_cases c1 : n < s
  · rw [if_pos c1]
    exact fin _ _ (vcons_bad k0 k1 k2 k3 k4 k5 s n h0 hs hn P r1 r2 (.inl c1)) verdict_no
  · rw [if_neg c1]
    by_cases c2 : s = n
    · rw [if_pos c2]
      by_cases c3 : 0 < P.length
      · rw [if_pos c3]
        exact fin _ _ (vcons_bad k0 k1 k2 k3 k4 k5 s n h0 hs hn P r1 r2 (.inr (.inl ⟨c2, c3⟩))) verdict_no
      · rw [if_neg c3]
        have hE : Ev (fun k => proof_VerifyConsistency.f k k0 k1 k2 k3 k4 k5 (s : Int) (n : Int) P r1 r2) (if sameT r1 r2 = true then (0, [], [], []) else (1, [], r2, r1)) := by
          unfold proof_VerifyConsistency.f bytes_Equal.f
          simp only [if_neg (show ¬ (n : Int) < (s : Int) by omega), if_pos (show (s : Int) = (n : Int) by omega), if_neg c3, Option.bind_some]
          change Ev (fun n => if sameT r1 r2 = true then some (0, [], [], []) else some (1, [], r2, r1)) _
          by_cases h2 : sameT r1 r2 = true
          · simp only [if_pos h2]
            exact Ev.now _
          · simp only [if_neg h2]
            exact Ev.now _
        refine fin _ _ hE (fun k => ?_)
        by_cases h2 : sameT r1 r2 = true
        · rw [if_pos h2, if_pos h2]; exact verdict_ok k
        · rw [if_neg h2, if_neg h2]; exact verdict_other k _ _ (by first | omega | (dsimp only; omega))
    · rw [if_neg c2]
      by_cases c3 : P.length = (proofP s 0 n true).length
      · rw [if_pos c3]
        have hl := (rootsFrom_ev k0 k1 k2 k3 k4 k5 s n h0 (by omega) hn P r1 c3 hb).2
        have hg := vcons_good k0 k1 k2 k3 k4 k5 s n h0 (by omega) hn P r1 r2 c3 hb
        obtain ⟨X, hXd⟩ : ∃ X, X = rootsP (hc k0 k2 k5) [] s 0 n true P r1 := ⟨_, rfl⟩
        rw [← hXd] at hl hg ⊢
        clear hXd
        refine fin _ _ hg (fun k => ?_)
        unfold tailV
        by_cases h1 : sameT X.1 r1 = true
        · rw [if_pos h1, if_pos h1]
          by_cases h2 : sameT X.2 r2 = true
          · rw [if_pos h2, if_pos h2]; exact verdict_ok k
          · rw [if_neg h2, if_neg h2]; exact verdict_other k _ _ (by first | omega | (dsimp only; omega))
        · rw [if_neg h1, if_neg h1]; exact verdict_other k _ _ (by first | omega | (dsimp only; omega))
      · rw [if_neg c3]
        exact fin _ _ (vcons_bad k0 k1 k2 k3 k4 k5 s n h0 hs hn P r1 r2 (.inr (.inr ⟨by omega, c3⟩))) verdict_no
theorem sv_j0 (a1 a2 : Int) (P : List (List Int)) (r1 r2 : List Int) : Ev (fun k => spec_VerifiedConsistency.j0 k a1 a2 P r1 r2 true k0 k1 k2 k3 k4 k5) (2, []) := by
  refine Ev.step (fun k => spec_VerifiedConsistency.j0.eq_2 _ _ _ _ _ _ _ _ _ _ _ _ _) ?_
  simp only [if_true]
  exact Ev.now _
theorem specCons_ev (s n : Nat) (h0 : 0 < s) (hs : s < 18446744073709551616) (hn : n < 18446744073709551616) (P : List (List Int)) (r1 r2 : List Int) (hb : r1.length + tot P ≤ 70368744177664) :
    Ev (fun k => spec_VerifiedConsistency.f k k0 k1 k2 k3 k4 k5 (s : Int) (n : Int) P r1 r2) (vcV k0 k2 k5 s n P r1 r2) := by
  have hf : ¬ (false = true) := by decide
  unfold spec_VerifiedConsistency.f vcV
  by_cases c1 : n < s
  · rw [if_pos c1]
    simp only [if_pos (show (s : Int) > (n : Int) by omega)]
    exact sv_j0 k0 k1 k2 k3 k4 k5 _ _ _ _ _
  · rw [if_neg c1]
    simp only [if_neg (show ¬ (s : Int) > (n : Int) by omega), if_neg (show ¬ (s : Int) = 0 by omega)]
    by_cases c2 : s = n
    · rw [if_pos c2]
      simp only [if_pos (show (s : Int) = (n : Int) by omega)]
      by_cases c3 : 0 < P.length
      · rw [if_pos c3, decide_eq_true (show (P.length : Int) > 0 by omega)]
        exact sv_j0 k0 k1 k2 k3 k4 k5 _ _ _ _ _
      · rw [if_neg c3, decide_eq_false (show ¬ (P.length : Int) > 0 by omega)]
        refine Ev.step (fun k => spec_VerifiedConsistency.j0.eq_2 _ _ _ _ _ _ _ _ _ _ _ _ _) ?_
        unfold spec_SameText.f
        simp only [if_neg hf, if_pos (show (s : Int) = (n : Int) by omega), Option.bind_some]
        change Ev (fun k => spec_VerifiedConsistency.j1 k (s : Int) (n : Int) P r1 r2 (!(sameT r1 r2)) k0 k1 k2 k3 k4 k5) _
        refine Ev.step (fun k => spec_VerifiedConsistency.j1.eq_2 _ _ _ _ _ _ _ _ _ _ _ _ _) ?_
        by_cases h2 : sameT r1 r2 = true
        · rw [if_pos h2]
          simp only [h2, Bool.not_true, if_neg hf, if_pos (show (s : Int) = (n : Int) by omega)]
          refine Ev.step (fun k => spec_VerifiedConsistency.j2.eq_2 _ _ _ _ _ _ _ _ _ _ _ _ _) ?_
          simp only [if_true]
          exact Ev.now _
        · rw [if_neg h2]
          simp only [Bool.eq_false_iff.mpr h2, Bool.not_false, if_true]
          exact Ev.now _
    · rw [if_neg c2]
      simp only [if_neg (show ¬ (s : Int) = (n : Int) by omega)]
      refine Ev.step (fun k => spec_VerifiedConsistency.j0.eq_2 _ _ _ _ _ _ _ _ _ _ _ _ _) ?_
      simp only [if_neg hf, if_neg (show ¬ (s : Int) = (n : Int) by omega)]
      refine Ev.step (fun k => spec_VerifiedConsistency.j1.eq_2 _ _ _ _ _ _ _ _ _ _ _ _ _) ?_
      simp only [if_neg hf, if_neg (show ¬ (s : Int) = (n : Int) by omega), show ((s : Int) == 0) = false from by rw [beq_eq_false_iff_ne]; omega]
      refine Ev.step (fun k => spec_VerifiedConsistency.j2.eq_2 _ _ _ _ _ _ _ _ _ _ _ _ _) ?_
      simp only [if_neg hf]
      refine Ev.bind (proofParts_ev s n h0 (by omega) hn) ?_
      rw [List.length_map]
      by_cases c3 : P.length = (proofP s 0 n true).length
      · rw [if_pos c3]
        simp only [if_pos (show (P.length : Int) = ((proofP s 0 n true).length : Int) by omega)]
        refine Ev.bind (rootsFrom_ev k0 k1 k2 k3 k4 k5 s n h0 (by omega) hn P r1 c3 hb).1 ?_
        generalize rootsP (hc k0 k2 k5) [] s 0 n true P r1 = X at *
        unfold spec_SameText.f
        simp only [Option.bind_some]
        change Ev (fun n => if sameT X.1 r1 = true then (if sameT X.2 r2 = true then some (0, []) else some (1, X.2)) else some (1, X.1)) _
        by_cases h1 : sameT X.1 r1 = true
        · simp only [if_pos h1]
          by_cases h2 : sameT X.2 r2 = true
          · simp only [if_pos h2]; exact Ev.now _
          · simp only [if_neg h2]; exact Ev.now _
        · simp only [if_neg h1]; exact Ev.now _
      · rw [if_neg c3]
        simp only [if_neg (show ¬ (P.length : Int) = ((proofP s 0 n true).length : Int) by omega)]
        exact Ev.now _
end
end Go.Proofs.YtkmdkmlgahfcpaaDoor.Log
