/- Leaves put behind a compact range one by one: implementation and specification make the same, in plain lists. -/
import Derived.Test.YtkmdkmlgahfcpaaDoorM
import Derived.Test.YtkmdkmlgahfcpaaDoorMergeG
namespace Go.Proofs.YtkmdkmlgahfcpaaDoor.M
open Go Go.RowKit Go.Proofs.YtkmdkmlgahfcpaaDoorW.PrintWords Go.Proofs.YtkmdkmlgahfcpaaDoorW.PrintLast Go.Proofs.YtkmdkmlgahfcpaaDoorW.PrintMore
set_option linter.unusedVariables false
set_option linter.unusedSimpArgs false
open Go.Proofs.YtkmdkmlgahfcpaaDoor.Nodes
/-- Nodes with their hashes. -/
def nmV (N : List (Nat × Nat)) (L : List (List Int)) : List S60 := List.zipWith (fun n y => ⟨⟨n.1, n.2⟩, y⟩) N L
theorem nmV_append {N : List (Nat × Nat)} {L : List (List Int)} (h : N.length = L.length) (n : Nat × Nat) (y : List Int) : nmV (N ++ [n]) (L ++ [y]) = nmV N L ++ [⟨⟨n.1, n.2⟩, y⟩] := by
  unfold nmV
  rw [List.zipWith_append h]
  rfl
theorem psL_pair (hc : List Int → List Int → Option (List Int)) (d : Nat) (A : List S60) (p q : S60) (made : List S60) :
    psL hc (d + 1) (A ++ [p, q]) made = if p.f0.f0 = q.f0.f0 ∧ p.f0.f1 % 2 = 0 ∧ 0 ≤ p.f0.f1 ∧ made.length < 1000000 then
        (hc p.f1 q.f1).bind fun y => psL hc d (A ++ [⟨⟨IntKind.u64.wrap (p.f0.f0 + 1), IntKind.u64.wrap (p.f0.f1 / 2)⟩, y⟩]) (made ++ [⟨⟨IntKind.u64.wrap (p.f0.f0 + 1), IntKind.u64.wrap (p.f0.f1 / 2)⟩, y⟩])
      else if p.f0.f0 = q.f0.f0 ∧ p.f0.f1 % 2 = 0 then none else some (A ++ [p, q], made) := by
  have hl : (A ++ [p, q]).length = A.length + 2 := by simp
  have h1 : (A ++ [p, q]).getD ((A ++ [p, q]).length - 2) z60 = p := by rw [hl]; simp [List.getD]
  have h2 : (A ++ [p, q]).getD ((A ++ [p, q]).length - 1) z60 = q := by
    rw [hl, show A.length + 2 - 1 = A.length + 1 by omega]
    simp [List.getD, List.getElem?_append_right]
  have h3 : (A ++ [p, q]).take ((A ++ [p, q]).length - 2) = A := by rw [hl]; simp
  rw [psL, h1, h2, h3, if_pos (by rw [hl]; omega)]
theorem psL_one (hc : List Int → List Int → Option (List Int)) (d : Nat) (p : S60) (made : List S60) : psL hc (d + 1) [p] made = some ([p], made) := by
  rw [psL, if_neg (by simp)]
theorem G_last {b : Nat} : ∀ {N : List (Nat × Nat)} {e l i : Nat}, G b e (N ++ [(l, i)]) → (i + 1) * 2 ^ l = e ∧ b ≤ i * 2 ^ l := by
  intro N
  induction N generalizing b with
  | nil =>
    intro e l i h
    cases h with
    | cons _ _ _ _ hd hle hmax t =>
      have ht : b + 2 ^ l = e := by cases t; rfl
      have hq : b / 2 ^ l * 2 ^ l = b := Nat.div_mul_cancel hd
      exact ⟨by rw [Nat.add_mul, Nat.one_mul, hq]; exact ht, by rw [hq]; exact Nat.le_refl _⟩
  | cons a N ih =>
    intro e l i h
    cases h with
    | cons _ _ _ _ hd hle hmax t =>
      have := ih t
      exact ⟨this.1, Nat.le_trans (Nat.le_add_right _ _) this.2⟩
/-- The sizes of hashes, with room for a mark each. -/
def phi (p : List (List Int)) : Nat := (p.map fun r => r.length + 9).foldr (· + ·) 0
theorem phi_append (p q : List (List Int)) : phi (p ++ q) = phi p + phi q := by
  induction p with
  | nil => simp [phi]
  | cons a p ih =>
    have h1 : phi (a :: (p ++ q)) = a.length + 9 + phi (p ++ q) := rfl
    have h2 : phi (a :: p) = a.length + 9 + phi p := rfl
    rw [List.cons_append, h1, h2, ih]
    omega
theorem phi_one (a : List Int) : phi [a] = a.length + 9 := rfl
theorem half_up (x h : Nat) (hx : x % 2 = 1) : (x / 2 + 1) * 2 ^ (h + 1) = (x + 1) * 2 ^ h ∧ x / 2 * 2 ^ (h + 1) = (x - 1) * 2 ^ h := by
  have e2 : 2 ^ (h + 1) = 2 * 2 ^ h := by rw [Nat.pow_succ]; omega
  rw [e2, ← Nat.mul_assoc, ← Nat.mul_assoc]
  exact ⟨by congr 1; omega, by congr 1; omega⟩
theorem lv_lt {x h : Nat} (hx : (x + 1) * 2 ^ h < 2 ^ 64) : h < 64 ∧ x < 2 ^ 64 := by
  have hp := pow_pos h
  constructor
  · apply Nat.lt_of_not_le
    intro h64
    have h1 := pow_mono h64
    have h2 : 2 ^ h ≤ (x + 1) * 2 ^ h := Nat.le_mul_of_pos_left _ (Nat.succ_pos _)
    omega
  · have h2 : x + 1 ≤ (x + 1) * 2 ^ h := Nat.le_mul_of_pos_right _ hp
    omega
theorem no_up {b h x : Nat} (hn : ¬ (x % 2 = 1 ∧ b ≤ x / 2 * 2 ^ (h + 1))) : ¬ (b ≤ x / 2 * 2 ^ (h + 1) ∧ (x / 2 + 1) * 2 ^ (h + 1) ≤ (x + 1) * 2 ^ h) := by
  rintro ⟨h1, h2⟩
  have hp := pow_pos h
  by_cases hx : x % 2 = 1
  · exact hn ⟨hx, h1⟩
  · have e2 : (x / 2 + 1) * 2 ^ (h + 1) = (x + 2) * 2 ^ h := by
      rw [Nat.pow_succ, Nat.mul_comm (2 ^ h) 2, ← Nat.mul_assoc]
      congr 1
      omega
    rw [e2] at h2
    have := Nat.mul_lt_mul_of_pos_right (show x + 1 < x + 2 by omega) hp
    omega
theorem u64_fit (x : Int) (h0 : 0 ≤ x) (h1 : x < 18446744073709551616) : IntKind.u64.wrap x = x := by
  exact IntWalk.u64_in _ ⟨h0, by omega⟩
theorem mk_eq {h x : Nat} (hx : (x + 1) * 2 ^ h < 2 ^ 64) (hodd : x % 2 = 1) (y : List Int) : (⟨⟨IntKind.u64.wrap ((h : Int) + 1), IntKind.u64.wrap (((x - 1 : Nat) : Int) / 2)⟩, y⟩ : S60) = ⟨⟨((h + 1 : Nat) : Int), ((x / 2 : Nat) : Int)⟩, y⟩ := by
  have h1 := (lv_lt hx).1
  have h2 := (lv_lt hx).2
  have e1 : IntKind.u64.wrap ((h : Int) + 1) = ((h + 1 : Nat) : Int) := (u64_fit _ (by omega) (by omega)).trans (by omega)
  have e2 : IntKind.u64.wrap (((x - 1 : Nat) : Int) / 2) = ((x / 2 : Nat) : Int) := (u64_fit _ (by omega) (by omega)).trans (by omega)
  rw [e1, e2]
/-- One node behind a range: what the implementation makes of it is what the specification makes. -/
theorem merge_ev {hcI hcS : Nat → List Int → List Int → Option (List Int)} {H : List Int → List Int → List Int} (hI : ∀ l r, l.length + r.length ≤ 8000000 → Ev (fun k => hcI k l r) (H l r)) (hS : ∀ l r, l.length + r.length ≤ 8000000 → Ev (fun k => hcS k l r) (H l r)) (hH : ∀ l r, (H l r).length ≤ l.length + r.length + 9) (b : Nat) :
    ∀ (n : Nat) (N : List (Nat × Nat)) (L : List (List Int)) (h x : Nat) (s : List Int) (made : List S60), N.length = n → L.length = n → G b (x * 2 ^ h) N → (x + 1) * 2 ^ h < 2 ^ 64 → phi L + s.length + 9 ≤ 4000000 → made.length + n < 1000000 →
    ∃ (d : Nat) (N2 : List (Nat × Nat)) (L2 : List (List Int)) (vs : List S60), d ≤ n ∧ (∀ j, j < d → x / 2 ^ j % 2 = 1 ∧ b ≤ x / 2 ^ (j + 1) * 2 ^ (h + j + 1)) ∧ ¬ (x / 2 ^ d % 2 = 1 ∧ b ≤ x / 2 ^ (d + 1) * 2 ^ (h + d + 1))
      ∧ (∀ vis, Ev (fun k => Mrg.mgF rgMk (hcI k) d h x L [] s vis) (L2, vis ++ vs)) ∧ (∃ K, ∀ k f, K ≤ k → K ≤ f → psL (hcS k) f (nmV N L ++ [⟨⟨(h : Int), (x : Int)⟩, s⟩]) made = some (nmV N2 L2, made ++ vs))
      ∧ G b ((x + 1) * 2 ^ h) N2 ∧ L2.length = N2.length ∧ N2.length ≤ n + 1 ∧ phi L2 ≤ phi L + s.length + 9 ∧ vs.length ≤ n := by
  intro n
  induction n with
  | zero =>
    intro N L h x s made hN hL hG hx hP hM
    obtain rfl := List.length_eq_zero_iff.mp hN
    obtain rfl := List.length_eq_zero_iff.mp hL
    have hbx : b = x * 2 ^ h := by cases hG; rfl
    have hno : ¬ (x % 2 = 1 ∧ b ≤ x / 2 * 2 ^ (h + 1)) := by
      rintro ⟨h1, h2⟩
      rw [(half_up x h h1).2, hbx] at h2
      have hp := pow_pos h
      have := Nat.mul_lt_mul_of_pos_right (show x - 1 < x by omega) hp
      omega
    refine ⟨0, [(h, x)], [s], [], Nat.le_refl _, fun j hj => absurd hj (Nat.not_lt_zero _), ?_, fun vis => ?_, ⟨1, fun k f _ hf => ?_⟩, ?_, rfl, Nat.le_refl _, ?_, Nat.le_refl _⟩
    · rw [Nat.pow_zero, Nat.div_one, Nat.zero_add, Nat.pow_one, Nat.add_zero]
      exact hno
    · rw [List.append_nil]; exact Ev.now _
    · obtain ⟨f, rfl⟩ : ∃ f', f = f' + 1 := ⟨f - 1, by omega⟩
      rw [List.append_nil]
      exact psL_one _ _ _ _
    · exact G.join (L := []) (R := []) hG rfl (G.nil _) (no_up hno)
    · rw [phi_one]; omega
  | succ n ih =>
    intro N L h x s made hN hL hG hx hP hM
    rcases List.eq_nil_or_concat L with rfl | ⟨L', y0, rfl⟩
    · simp at hL
    rw [List.concat_eq_append] at *
    have hL' : L'.length = n := by simpa using hL
    rw [phi_append, phi_one] at hP
    by_cases hup : x % 2 = 1 ∧ b ≤ x / 2 * 2 ^ (h + 1)
    · obtain ⟨hodd, hfit⟩ := hup
      obtain ⟨e1, e2⟩ := half_up x h hodd
      obtain ⟨N', rfl, hG'⟩ := G.last hodd hG (e2 ▸ hfit)
      have hN' : N'.length = n := by simpa using hN
      have hlen := hH y0 s
      obtain ⟨d, N2, L2, vs, p1, p2, p3, p4, p5, p6, p7, p8, p9, p10⟩ := ih N' L' (h + 1) (x / 2) (H y0 s) (made ++ [⟨⟨((h + 1 : Nat) : Int), ((x / 2 : Nat) : Int)⟩, H y0 s⟩]) hN' hL' (e2 ▸ hG') (by rw [e1]; exact hx) (by omega) (by simp; omega)
      have hdiv : ∀ j, x / 2 / 2 ^ j = x / 2 ^ (j + 1) := fun j => by rw [Nat.div_div_eq_div_mul, Nat.pow_succ, Nat.mul_comm]
      refine ⟨d + 1, N2, L2, ⟨⟨((h + 1 : Nat) : Int), ((x / 2 : Nat) : Int)⟩, H y0 s⟩ :: vs, by omega, fun j hj => ?_, ?_, fun vis => ?_, ?_, by rw [← e1]; exact p6, p7, by omega, by rw [phi_append, phi_one]; omega, by simp; omega⟩
      · cases j with
        | zero => rw [Nat.pow_zero, Nat.div_one, Nat.zero_add, Nat.pow_one, Nat.add_zero]; exact ⟨hodd, hfit⟩
        | succ j =>
          have := p2 j (by omega)
          rw [hdiv, hdiv, show h + 1 + j + 1 = h + (j + 1) + 1 by omega] at this
          exact this
      · rw [hdiv, hdiv, show h + 1 + d + 1 = h + (d + 1) + 1 by omega] at p3
        exact p3
      · have hl : (L' ++ [y0]).getLast? = some y0 := by simp
        have hd : (L' ++ [y0]).dropLast = L' := by simp
        refine Ev.congr (f := fun k => (hcI k y0 s).bind fun y => Mrg.mgF rgMk (hcI k) d (h + 1) (x / 2) L' [] y (vis ++ [rgMk (h + 1) (x / 2) y])) (fun k => ?_) ?_
        · rw [Mrg.mgF, if_neg (by omega), hl, hd]
          rfl
        · refine Ev.bind (hI y0 s (by omega)) ?_
          have := p4 (vis ++ [rgMk (h + 1) (x / 2) (H y0 s)])
          rw [List.append_assoc] at this
          exact this
      · obtain ⟨K, hK⟩ := p5
        obtain ⟨K2, hK2⟩ := hS y0 s (by omega)
        refine ⟨K + K2 + 1, fun k f hk hf => ?_⟩
        obtain ⟨f, rfl⟩ : ∃ f', f = f' + 1 := ⟨f - 1, by omega⟩
        rw [nmV_append (by omega), List.append_assoc]
        refine (psL_pair _ _ _ _ _ _).trans ?_
        dsimp only
        rw [if_pos ⟨rfl, by omega, by omega, by omega⟩, (show hcS k y0 s = some (H y0 s) from hK2 k (by omega)), Option.bind_some, mk_eq hx hodd]
        have := hK k f (by omega) (by omega)
        rw [List.append_assoc] at this
        exact this
    · rcases List.eq_nil_or_concat N with rfl | ⟨N', li, rfl⟩
      · simp at hN
      rw [List.concat_eq_append] at *
      obtain ⟨l, i⟩ := li
      have hN' : N'.length = n := by simpa using hN
      obtain ⟨g1, g2⟩ := G_last hG
      refine ⟨0, (N' ++ [(l, i)]) ++ [(h, x)], (L' ++ [y0]) ++ [s], [], Nat.zero_le _, fun j hj => absurd hj (Nat.not_lt_zero _), ?_, fun vis => ?_, ⟨1, fun k f _ hf => ?_⟩, ?_, by simp; omega, by simp; omega, ?_, Nat.zero_le _⟩
      · rw [Nat.pow_zero, Nat.div_one, Nat.zero_add, Nat.pow_one, Nat.add_zero]
        exact hup
      · rw [List.append_nil]; exact Ev.now _
      · obtain ⟨f, rfl⟩ : ∃ f', f = f' + 1 := ⟨f - 1, by omega⟩
        rw [List.append_nil, nmV_append (hN.trans hL.symm), nmV_append (by omega), List.append_assoc]
        refine (psL_pair _ _ _ _ _ _).trans ?_
        dsimp only
        have hne : ¬ ((l : Int) = (h : Int) ∧ (i : Int) % 2 = 0) := by
          rintro ⟨h1, h2⟩
          obtain rfl : l = h := by omega
          have hxi : i + 1 = x := Nat.eq_of_mul_eq_mul_right (pow_pos l) g1
          refine hup ⟨by omega, ?_⟩
          rw [(half_up x l (by omega)).2, ← hxi]
          exact g2
        rw [if_neg (fun h_ => hne ⟨h_.1, h_.2.1⟩), if_neg hne]
        rfl
      · exact G.join hG rfl (G.nil _) (no_up hup)
      · rw [phi_append, phi_append, phi_one, phi_one]; omega
/-- The merge path where one leaf is put behind a range. -/
theorem gmp {b m : Nat} (hb : b ≤ m) (he : m + 1 < 2 ^ 64) : ∃ lo hi : Nat, compact_getMergePath.f (b : Int) (m : Int) ((m + 1 : Nat) : Int) = some ((lo : Int), (hi : Int)) ∧ lo ≤ 64 ∧ hi < 64
    ∧ (m % 2 = 1 → lo = 0 ∧ ∀ j, j < hi ↔ Fits b (m + 1) m (j + 1)) ∧ (m % 2 = 0 → hi ≤ lo) := by
  by_cases h0 : m = 0
  · subst h0
    obtain rfl : b = 0 := by omega
    exact ⟨64, 63, by decide +kernel, by decide, by decide, fun h => absurd h (by decide), fun _ => by decide⟩
  have hz : Lib.ctz 64 m = Lib.ctzFrom 64 m := by unfold Lib.ctz; rw [if_neg h0]
  obtain ⟨q, hq, hlt⟩ := Lib.ctzFrom_spec 64 m (by omega) (by omega)
  rw [← hz] at hq hlt
  generalize hZ : Lib.ctz 64 m = z at *
  have hlen : ∀ x : Nat, x < 2 ^ 64 → bits_Len64.f (x : Int) = some (Lib.bitLen x : Int) := fun x hx => by
    unfold bits_Len64.f
    rw [if_pos ⟨by omega, by omega⟩, Int.toNat_natCast]
  have hX : (m - 1) ^^^ (m + 1) < 2 ^ 64 := Nat.xor_lt_two_pow (by omega) he
  have hY : m ^^^ (b - 1) < 2 ^ 64 := Nat.xor_lt_two_pow (by omega) (by omega)
  have hX1 : 0 < Lib.bitLen ((m - 1) ^^^ (m + 1)) := (bl_lt _ 0 hX).2 (Nat.pos_of_ne_zero (fun h => by have := xor_zero'.1 h; omega))
  have hY1 : 0 < Lib.bitLen (m ^^^ (b - 1)) := (bl_lt _ 0 hY).2 (Nat.pos_of_ne_zero (fun h => by have := xor_zero'.1 h; omega))
  have hX2 := Lib.bitLen_le _ 64 (Nat.le_refl _) hX
  have hY2 := Lib.bitLen_le _ 64 (Nat.le_refl _) hY
  have hmain : ∃ hi : Nat, compact_getMergePath.f (b : Int) (m : Int) ((m + 1 : Nat) : Int) = some ((z : Int), (hi : Int)) ∧ hi < 64 ∧ ∀ j, j < hi ↔ ((b = 0 ∨ j + 1 < Lib.bitLen (m ^^^ (b - 1))) ∧ j + 1 < Lib.bitLen ((m - 1) ^^^ (m + 1))) := by
    have hw1 : IntKind.u64.wrap ((m : Int) - 1) = ((m - 1 : Nat) : Int) := (u64_fit _ (by omega) (by omega)).trans (by omega)
    have hx1 : Go.bits .xor .u64 ((m - 1 : Nat) : Int) ((m + 1 : Nat) : Int) = (((m - 1) ^^^ (m + 1) : Nat) : Int) := bits_xor_u64_nat _ _ (by omega) (by omega)
    have hzw : IntKind.u64.wrap (z : Int) = z := u64_fit _ (by omega) (by omega)
    have htz : bits_TrailingZeros64.f (m : Int) = some (z : Int) := by
      unfold bits_TrailingZeros64.f
      rw [if_pos ⟨by omega, by omega⟩, Int.toNat_natCast, hZ]
    have hend : ∀ t : Nat, 0 < t → t ≤ 64 → IntKind.u64.wrap (wrap64 ((t : Int) - 1)) = ((t - 1 : Nat) : Int) := fun t h1 h2 => by
      rw [show wrap64 ((t : Int) - 1) = ((t - 1 : Nat) : Int) by unfold wrap64; omega]
      exact u64_fit _ (by omega) (by omega)
    unfold compact_getMergePath.f
    rw [htz, Option.bind_some, hw1, hx1, hlen _ hX, Option.bind_some, hzw]
    by_cases hb0 : b = 0
    · subst hb0
      rw [if_pos (by rfl)]
      by_cases h64 : (Lib.bitLen ((m - 1) ^^^ (m + 1)) : Int) < 64
      · rw [if_pos h64, hend _ hX1 hX2]
        exact ⟨_, rfl, by omega, fun j => by omega⟩
      · rw [if_neg h64]
        exact ⟨63, rfl, by omega, fun j => by omega⟩
    · have hw2 : IntKind.u64.wrap ((b : Int) - 1) = ((b - 1 : Nat) : Int) := (u64_fit _ (by omega) (by omega)).trans (by omega)
      have hx2 : Go.bits .xor .u64 (m : Int) ((b - 1 : Nat) : Int) = ((m ^^^ (b - 1) : Nat) : Int) := bits_xor_u64_nat _ _ (by omega) (by omega)
      rw [if_neg (by omega), hw2, hx2, hlen _ hY, Option.bind_some, Option.bind_some]
      by_cases hlt2 : (Lib.bitLen ((m - 1) ^^^ (m + 1)) : Int) < (Lib.bitLen (m ^^^ (b - 1)) : Int)
      · rw [if_pos hlt2, hend _ hX1 hX2]
        exact ⟨_, rfl, by omega, fun j => by omega⟩
      · rw [if_neg hlt2, hend _ hY1 hY2]
        exact ⟨_, rfl, by omega, fun j => by omega⟩
  obtain ⟨hi, hf, h64, hiff⟩ := hmain
  refine ⟨z, hi, hf, by omega, h64, fun hodd => ?_, fun heven => ?_⟩
  · refine ⟨?_, fun j => (hiff j).trans (path_iff hb (by omega) (by omega) he (fun hd => ?_))⟩
    · cases z with
      | zero => rfl
      | succ z => rw [Nat.pow_succ, Nat.mul_comm (2 ^ z) 2, Nat.mul_assoc] at hq; omega
    · have h2 : 2 ∣ m := Nat.dvd_trans ⟨2 ^ j, by rw [Nat.pow_succ, Nat.mul_comm]⟩ hd
      omega
  · apply Nat.le_of_not_lt
    intro hlt3
    have hp := pow_pos z
    have hnd : ¬ 2 ^ (z + 1) ∣ m := by
      rintro ⟨c, hc⟩
      rw [Nat.pow_succ, Nat.mul_assoc] at hc
      have := Nat.eq_of_mul_eq_mul_left hp (hq.symm.trans hc)
      omega
    have hF := (path_iff hb (by omega) (by omega) he hnd).1 ((hiff z).1 hlt3)
    have hF2 := hF.2
    have hz1 : 2 ≤ 2 ^ z := by
      cases z with
      | zero => rw [Nat.pow_zero, Nat.one_mul] at hq; omega
      | succ z => have := pow_pos z; rw [Nat.pow_succ]; omega
    have hdm := Nat.div_add_mod m (2 ^ (z + 1))
    have hml := Nat.mod_lt m (pow_pos (z + 1))
    have e2 : 2 ^ (z + 1) = 2 * 2 ^ z := by rw [Nat.pow_succ]; omega
    have hq2 : m = 2 ^ (z + 1) * q + 2 ^ z := by rw [hq, e2, Nat.mul_add, Nat.mul_one, ← Nat.mul_assoc, Nat.mul_comm (2 ^ z) 2]
    have hd : m / 2 ^ (z + 1) = q := by
      rw [hq2, Nat.mul_add_div (pow_pos (z + 1)), Nat.div_eq_of_lt (by omega), Nat.add_zero]
    rw [hd, Nat.add_mul, Nat.one_mul, Nat.mul_comm] at hF2
    omega
theorem ones_all : ∀ (d x : Nat), x < 2 ^ 64 → (∀ j, j < d → x / 2 ^ j % 2 = 1) → Lib.onesCount (x % 2 ^ d) = d
  | 0, x, _, _ => by rw [Nat.pow_zero, Nat.mod_one]; exact pop_none
  | d + 1, x, hx, h => by
    have h0 := h 0 (Nat.succ_pos _)
    rw [Nat.pow_zero, Nat.div_one] at h0
    rw [pop_low x d hx, h0, ones_all d (x / 2) (by omega) (fun j hj => by
      have := h (j + 1) (by omega)
      rw [Nat.div_div_eq_div_mul, Nat.mul_comm, ← Nat.pow_succ]
      exact this)]
    omega
/-- The levels at which a leaf's way up stays in the range. -/
theorem fits_leaf {b m : Nat} : ∀ (d : Nat), (∀ j, j < d → m / 2 ^ j % 2 = 1 ∧ b ≤ m / 2 ^ (j + 1) * 2 ^ (j + 1)) → (m / 2 ^ d + 1) * 2 ^ d = m + 1
  | 0, _ => by rw [Nat.pow_zero, Nat.div_one, Nat.mul_one]
  | d + 1, h => by
    have ih := fits_leaf d (fun j hj => h j (by omega))
    have hd := h d (Nat.lt_succ_self _)
    rw [div_up, (half_up _ _ hd.1).1]
    exact ih
theorem hi_eq {b m d hi : Nat} (hodd : ∀ j, j < hi ↔ Fits b (m + 1) m (j + 1)) (hd : ∀ j, j < d → m / 2 ^ j % 2 = 1 ∧ b ≤ m / 2 ^ (j + 1) * 2 ^ (j + 1)) (hno : ¬ (m / 2 ^ d % 2 = 1 ∧ b ≤ m / 2 ^ (d + 1) * 2 ^ (d + 1))) : hi = d := by
  have hfd := fits_leaf d hd
  apply Nat.le_antisymm
  · apply Nat.le_of_not_lt
    intro hlt
    have hF := (hodd d).1 hlt
    have hp := pow_pos d
    by_cases hx : m / 2 ^ d % 2 = 1
    · exact hno ⟨hx, hF.1⟩
    · have h2 := hF.2
      have e2 : (m / 2 ^ d / 2 + 1) * 2 ^ (d + 1) = (m / 2 ^ d + 2) * 2 ^ d := by
        rw [Nat.pow_succ, Nat.mul_comm (2 ^ d) 2, ← Nat.mul_assoc]
        congr 1
        omega
      rw [div_up, e2, ← hfd] at h2
      have := Nat.mul_lt_mul_of_pos_right (show m / 2 ^ d + 1 < m / 2 ^ d + 2 by omega) hp
      omega
  · apply Nat.le_of_not_lt
    intro hlt
    have hF : Fits b (m + 1) m (hi + 1) := ⟨(hd hi hlt).2, by rw [fits_leaf (hi + 1) (fun j hj => hd j (by omega))]; exact Nat.le_refl _⟩
    exact Nat.lt_irrefl _ ((hodd hi).2 hF)
/-- One leaf behind a range, in the implementation. -/
theorem rgApp_ev {a0 a1 a2 a3 a4 a5 : Int} {b m d : Nat} {L L2 : List (List Int)} {s : List Int} {vis vs : List S60} (hb : b ≤ m) (he : m + 1 < 2 ^ 64) (hdL : d ≤ L.length) (hL : L.length < 1000000) (hV : vis.length < 1000000)
    (hd : ∀ j, j < d → m / 2 ^ j % 2 = 1 ∧ b ≤ m / 2 ^ (j + 1) * 2 ^ (j + 1)) (hno : ¬ (m / 2 ^ d % 2 = 1 ∧ b ≤ m / 2 ^ (d + 1) * 2 ^ (d + 1)))
    (hM : Ev (fun k => Mrg.mgF rgMk (rgH k a0 a1 a2 a3 a4 a5) d 0 m L [] s vis) (L2, vis ++ vs)) :
    Ev (fun k => rgApp k a0 a1 a2 a3 a4 a5 (b : Int) (m : Int) ((m + 1 : Nat) : Int) L s [] vis) (L2, vis ++ vs) := by
  obtain ⟨lo, hi, hf, hlo, hhi, hodd, heven⟩ := gmp hb he
  have key : hi - lo = d ∧ (0 < d → lo = 0) := by
    rcases Nat.mod_two_eq_zero_or_one m with h2 | h2
    · have hle := heven h2
      have hd0 : d = 0 := by
        apply Nat.eq_zero_of_not_pos
        intro hp
        have := (hd 0 hp).1
        rw [Nat.pow_zero, Nat.div_one] at this
        omega
      exact ⟨by omega, fun h => by omega⟩
    · obtain ⟨e1, e2⟩ := hodd h2
      have := hi_eq e2 hd hno
      exact ⟨by omega, fun _ => e1⟩
  obtain ⟨hk, hk0⟩ := key
  refine Ev.congr (f := fun k => Mrg.mgF rgMk (rgH k a0 a1 a2 a3 a4 a5) d 0 m L [] s vis) (fun k => ?_) hM
  unfold rgApp
  rw [hf, Option.bind_some]
  dsimp only
  rw [Int.toNat_natCast, Int.toNat_natCast, Int.toNat_natCast, hk]
  by_cases hd0 : d = 0
  · subst hd0
    rw [if_pos ⟨by omega, by omega, by omega, by omega, by omega, by omega, hL, by simp, hV, by rw [Nat.pow_zero, Nat.mod_one, pop_none]; exact Nat.zero_le _, Nat.zero_le _⟩]
    rfl
  · obtain rfl := hk0 (Nat.pos_of_ne_zero hd0)
    have ho := ones_all d m (by omega) (fun j hj => (hd j hj).1)
    rw [Nat.pow_zero, Nat.div_one, ho, if_pos ⟨by omega, by omega, by omega, by omega, by omega, by omega, hL, by simp, hV, hdL, by simp⟩]

end Go.Proofs.YtkmdkmlgahfcpaaDoor.M
