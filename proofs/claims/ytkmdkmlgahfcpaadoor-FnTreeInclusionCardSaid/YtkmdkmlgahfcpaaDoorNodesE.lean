/- What proof.nodes computes: the node, what is beside its way up to the fork, and the two rests, each turned round. -/
import Derived.Test.YtkmdkmlgahfcpaaDoorRangesM
import Derived.Test.YtkmdkmlgahfcpaaDoorNodeP
namespace Go.Proofs.YtkmdkmlgahfcpaaDoor.Ranges
open Go Go.RowKit Go.Proofs.YtkmdkmlgahfcpaaDoor.M Go.Proofs.YtkmdkmlgahfcpaaDoorW.PrintWords Go.Proofs.YtkmdkmlgahfcpaaDoorW.PrintLast Go.Proofs.YtkmdkmlgahfcpaaDoorW.PrintMore Go.Proofs.YtkmdkmlgahfcpaaDoor.Nodes
set_option linter.unusedVariables false

theorem compact_nodes2 (b e : Nat) (hbe : b ≤ e) (he : e < 2 ^ 64) (acc : List S106) (hl : acc.length < 8796093022000) :
    ∃ L, G b e L ∧ L.length ≤ 128 ∧ compact_RangeSize.f (b : Int) (e : Int) = some (L.length : Int) ∧ Ev (fun k => compact_RangeNodes.f k (b : Int) (e : Int) acc) (acc ++ L.map cn) := by
  obtain ⟨mid, d, hd, hdm, hb, hm, h1, h2, hf⟩ := decompose b e hbe he
  obtain ⟨L, hG, hLn, hE⟩ := rn_up (mid - b) b d 0 mid e acc (by omega) hdm h1 hd (by simp) (by omega) hm h2 he (by omega)
  have a1 := count_le (mid - b)
  have a2 := count_le (e - mid)
  refine ⟨L, hG, by omega, ?_, ?_⟩
  · unfold compact_RangeSize.f
    have hp : 2 ^ d ≤ 2 ^ 64 := pow_mono hd
    have c1 : bits_OnesCount64.f (((mid - b : Nat) : Int)) = some (Lib.onesCount (mid - b) : Int) := by
      unfold bits_OnesCount64.f
      rw [if_pos ⟨by omega, by omega⟩, Int.toNat_natCast]
    have c2 : bits_OnesCount64.f (((e - mid : Nat) : Int)) = some (Lib.onesCount (e - mid) : Int) := by
      unfold bits_OnesCount64.f
      rw [if_pos ⟨by omega, by omega⟩, Int.toNat_natCast]
    simp only [hf, Option.bind_some, c1, c2]
    have : wrap64 (((Lib.onesCount (mid - b) : Nat) : Int) + ((Lib.onesCount (e - mid) : Nat) : Int)) = (L.length : Int) := by unfold wrap64; omega
    rw [this]
  · unfold compact_RangeNodes.f
    simp only [hf, Option.bind_some]
    exact hE

theorem rev_at {α : Type} (z : α) (A B : List α) (y : α) (i : Int) (hi : i = (A.length : Int)) : (A ++ y :: B).getD i.toNat z = y := by
  subst hi
  rw [Int.toNat_natCast]
  simp [List.getD_eq_getElem?_getD]
theorem set_at {α : Type} (A B : List α) (y z : α) (i : Int) (hi : i = (A.length : Int)) : (A ++ y :: B).set i.toNat z = A ++ z :: B := by
  subst hi
  rw [Int.toNat_natCast]
  simp

theorem reverse_l (n : Nat) : ∀ (mid A B : List S106), mid.length = n → A.length + mid.length + B.length < 4611686018427387904 →
    ∀ (k : Nat), mid.length < k → proof_reverse.l0 k (A ++ mid ++ B) (A.length : Int) (((A.length + mid.length : Nat) : Int) - 1) = some (A ++ mid.reverse ++ B) := by
  induction n using Nat.strongRecOn with
  | _ n ih =>
    intro mid A B hn hl k hk
    cases k with
    | zero => omega
    | succ k =>
      cases mid with
      | nil =>
        rw [proof_reverse.l0, if_neg (by simp; omega)]
        simp
      | cons x rest =>
        rcases List.eq_nil_or_concat rest with h | ⟨r, y, h⟩
        · subst h
          rw [proof_reverse.l0, if_neg (by simp)]
          simp
        · have h' : rest = r ++ [y] := by rw [h]; simp
          subst h'
          have hlen : (x :: (r ++ [y])).length = r.length + 2 := by simp
          rw [hlen] at hn hl hk
          rw [hlen]
          have e1 : A ++ x :: (r ++ [y]) ++ B = A ++ x :: (r ++ y :: B) := by simp
          have e2 : A ++ x :: (r ++ [y]) ++ B = (A ++ x :: r) ++ y :: B := by simp
          have el : (A ++ x :: (r ++ [y]) ++ B).length = A.length + (r.length + 2) + B.length := by simp only [List.length_append, List.length_cons, List.length_nil] <;> omega
          have hj : (((A.length + (r.length + 2) : Nat) : Int) - 1) = ((A ++ x :: r).length : Int) := by simp only [List.length_append, List.length_cons]; omega
          have r3 : rd_T106 (A ++ x :: (r ++ [y]) ++ B) (((A.length + (r.length + 2) : Nat) : Int) - 1) = y := by
            rw [e2]; exact rev_at _ _ _ _ _ hj
          have r2 : rd_T106 (A ++ x :: (r ++ [y]) ++ B) (A.length : Int) = x := by
            rw [e1]; exact rev_at _ _ _ _ _ rfl
          have w1 : wrap64 ((A.length : Int) + 1) = ((A ++ [y]).length : Int) := by rw [List.length_append]; unfold wrap64; simp only [List.length_cons, List.length_nil]; omega
          have w2 : wrap64 ((((A.length + (r.length + 2) : Nat) : Int) - 1) - 1) = ((((A ++ [y]).length + r.length : Nat) : Int) - 1) := by rw [List.length_append]; unfold wrap64; simp only [List.length_cons, List.length_nil]; omega
          rw [proof_reverse.l0, if_pos (by omega), if_pos (by omega), el, if_pos (by omega), if_pos (by omega), if_pos (by omega), r3, r2, w1, w2]
          have s1 : (A ++ x :: (r ++ [y]) ++ B).set (A.length : Int).toNat y = (A ++ y :: r) ++ y :: B := by
            rw [e1, set_at _ _ _ _ _ rfl]; simp
          have hj' : (((A.length + (r.length + 2) : Nat) : Int) - 1) = ((A ++ y :: r).length : Int) := by simp only [List.length_append, List.length_cons]; omega
          have s2 : ((A ++ y :: r) ++ y :: B).set (((A.length + (r.length + 2) : Nat) : Int) - 1).toNat x = (A ++ [y]) ++ r ++ (x :: B) := by
            rw [set_at _ _ _ _ _ hj']; simp
          have := ih r.length (by omega) r (A ++ [y]) (x :: B) rfl (by simp only [List.length_append, List.length_cons, List.length_nil]; omega) k (by omega)
          show proof_reverse.l0 k (((A ++ x :: (r ++ [y]) ++ B).set (A.length : Int).toNat y).set (((A.length + (r.length + 2) : Nat) : Int) - 1).toNat x) _ _ = _
          rw [s1, s2, this]
          simp

theorem reverse_ev (l : List S106) (hl : l.length < 4611686018427387904) : Ev (fun k => proof_reverse.f k l) l.reverse := by
  refine ⟨l.length + 1, fun k hk => ?_⟩
  unfold proof_reverse.f
  have w : wrap64 ((l.length : Int) - 1) = (((([] : List S106).length + l.length : Nat) : Int) - 1) := by unfold wrap64; simp; omega
  rw [w]
  have := reverse_l l.length l [] [] rfl (by simp; omega) k (by omega)
  simpa using this

theorem sibs_ev : ∀ (m l x fl : Nat) (acc : List S106), fl = l + m → fl < 100 → x < 2 ^ 64 → acc.length + m < 1000000 →
    Ev (fun k => sibs k (l : Int) (x : Int) (fl : Int) acc) (acc ++ (sf l x m).map cn)
  | 0, l, x, fl, acc => fun hf h1 h2 h3 => by
    refine Ev.step (fun k => by rw [sibs]) ?_
    simp only [sf, List.map_nil, List.append_nil]
    simp only [if_neg (show ¬ ((l : Int) < (fl : Int)) by omega)]
    exact Ev.now _
  | m + 1, l, x, fl, acc => fun hf h1 h2 h3 => by
    refine Ev.step (fun k => by rw [sibs]) ?_
    have hx := Nat.xor_lt_two_pow h2 (show 1 < 2 ^ 64 by decide)
    have e1 : Go.bits .xor .u64 (x : Int) 1 = ((x ^^^ 1 : Nat) : Int) := by rw [show (1 : Int) = ((1 : Nat) : Int) from rfl]; exact xor64 x 1 h2 (by decide)
    have e2 : IntKind.u64.wrap ((l : Int) + 1) = ((l + 1 : Nat) : Int) := u64_nat (l + 1) (by omega)
    have e3 : (x : Int) / 2 = ((x / 2 : Nat) : Int) := by omega
    simp only [if_pos (show (l : Int) < (fl : Int) by omega), if_pos (show acc.length < 1099511627776 by omega), compact_NodeID_Sibling.f, compact_NodeID_Parent.f, compact_NewNodeID.f, Option.bind_some, e1, e2, e3]
    have := sibs_ev m (l + 1) (x / 2) fl (acc ++ [cn (l, x ^^^ 1)]) (by omega) h1 (by omega) (by simp; omega)
    simpa [sf, cn] using this

theorem drop_app {α : Type} (a b : List α) (n : Int) (h : n = (b.length : Int)) : (a ++ b).drop (((a ++ b).length : Int) - n).toNat = b := by
  subst h
  rw [List.length_append, show ((((a.length + b.length : Nat) : Int) - (b.length : Int)).toNat) = a.length by omega]
  simp
theorem take_app {α : Type} (a b : List α) (n : Int) (h : n = (b.length : Int)) : (a ++ b).take (((a ++ b).length : Int) - n).toNat = a := by
  subst h
  rw [List.length_append, show ((((a.length + b.length : Nat) : Int) - (b.length : Int)).toNat) = a.length by omega]
  simp

/-- The whole list of a node's path. -/
def pathIDs (x t d : Nat) (Nl Nr : List (Nat × Nat)) : List (Nat × Nat) := (t, x) :: (sf t x d ++ Nr.reverse ++ Nl.reverse)

theorem nodes_ev (x t n : Nat) (ht : t < 64) (hn : n < 2 ^ 64) (hx : x < n / 2 ^ t) :
    ∃ (d : Nat) (Nl Nr : List (Nat × Nat)), Lib.bitLen (x ^^^ (n / 2 ^ t)) = d + 1 ∧ t + d < 64 ∧ n / 2 ^ t / 2 ^ d = x / 2 ^ d + 1 ∧ x / 2 ^ d % 2 = 0 ∧ G 0 (x / 2 ^ d * 2 ^ (t + d)) Nl ∧ G ((x / 2 ^ d + 1) * 2 ^ (t + d)) n Nr ∧ (x / 2 ^ d + 1) * 2 ^ (t + d) ≤ n ∧ Nl.length ≤ 128 ∧ Nr.length ≤ 128 ∧
    Ev (fun k => proof_nodes.f k (x : Int) (t : Int) (n : Int)) ((pathIDs x t d Nl Nr).map cn, (if Nr = [] then 0 else ((d + 1 : Nat) : Int)), (if Nr = [] then 0 else ((d + 1 + Nr.length : Nat) : Int)), ((t + d : Nat) : Int), ((x / 2 ^ d + 1 : Nat) : Int)) := by
  have hpt := pow_pos t
  have hX : n / 2 ^ t < 2 ^ 64 := Nat.lt_of_le_of_lt (Nat.div_le_self _ _) hn
  obtain ⟨d, hb, hd, hq, hev⟩ := fork x (n / 2 ^ t) hx hX
  have hpd := pow_pos d
  have hle : (x / 2 ^ d + 1) * 2 ^ (t + d) ≤ n := by
    rw [← hq, Nat.div_div_eq_div_mul, ← Nat.pow_add]
    exact Nat.div_mul_le_self _ _
  have hF : x / 2 ^ d * 2 ^ (t + d) ≤ (x / 2 ^ d + 1) * 2 ^ (t + d) := Nat.mul_le_mul_right _ (by omega)
  have htd : t + d < 64 := by
    apply Nat.lt_of_not_le
    intro h
    have h1 : 2 ^ 64 ≤ 2 ^ (t + d) := pow_mono h
    have h2 : 1 * 2 ^ (t + d) ≤ (x / 2 ^ d + 1) * 2 ^ (t + d) := Nat.mul_le_mul_right _ (Nat.le_add_left 1 _)
    omega
  have hx64 : x < 2 ^ 64 := by omega
  obtain ⟨Nl, hGl, hNl, hsl, _⟩ := compact_nodes2 0 (x / 2 ^ d * 2 ^ (t + d)) (by omega) (by omega) [] (by simp)
  obtain ⟨Nr, hGr, hNr, hsr, _⟩ := compact_nodes2 ((x / 2 ^ d + 1) * 2 ^ (t + d)) n hle hn [] (by simp)
  refine ⟨d, Nl, Nr, hb, htd, hq, hev, hGl, hGr, hle, hNl, hNr, ?_⟩
  have hsfl := sf_len d t x
  obtain ⟨Nr', hGr', _, _, hEr⟩ := compact_nodes2 ((x / 2 ^ d + 1) * 2 ^ (t + d)) n hle hn ([cn (t, x)] ++ (sf t x d).map cn) (by simp; omega)
  obtain rfl := hGr'.det hGr
  obtain ⟨Nl', hGl', _, _, hEl⟩ := compact_nodes2 0 (x / 2 ^ d * 2 ^ (t + d)) (by omega) (by omega) ([cn (t, x)] ++ (sf t x d).map cn ++ (Nr'.map cn).reverse) (by simp; omega)
  obtain rfl := hGl'.det hGl
  have hsib := sibs_ev d t x (t + d) [cn (t, x)] rfl (by omega) hx64 (by simp; omega)
  have hrr := reverse_ev (Nr'.map cn) (by simp; omega)
  have hrl := reverse_ev (Nl'.map cn) (by simp; omega)
  have s1 : shr .u64 (n : Int) (t : Int) = ((n / 2 ^ t : Nat) : Int) := shr_u64 n t (by omega)
  have s2 : Go.bits .xor .u64 (x : Int) ((n / 2 ^ t : Nat) : Int) = ((x ^^^ (n / 2 ^ t) : Nat) : Int) := xor64 _ _ hx64 hX
  have s3 := len64 (x ^^^ (n / 2 ^ t)) (Nat.xor_lt_two_pow hx64 hX)
  rw [hb] at s3
  have s4 : (((d + 1 : Nat) : Int) - 1) = (d : Int) := by omega
  have s5 : shr .u64 (x : Int) (d : Int) = ((x / 2 ^ d : Nat) : Int) := shr_u64 x d (by omega)
  have s6 : ((t : Int) + (d : Int)) = ((t + d : Nat) : Int) := by omega
  have hFu : x / 2 ^ d + 1 < 2 ^ 64 := by
    have : (x / 2 ^ d + 1) * 1 ≤ (x / 2 ^ d + 1) * 2 ^ (t + d) := Nat.mul_le_mul_left _ (pow_pos _)
    omega
  have s7 : compact_NodeID_Coverage.f ((t + d : Nat) : Int) ((x / 2 ^ d : Nat) : Int) = some (((x / 2 ^ d * 2 ^ (t + d) : Nat) : Int), (((x / 2 ^ d + 1) * 2 ^ (t + d) : Nat) : Int)) := by
    unfold compact_NodeID_Coverage.f
    have e1 : IntKind.u64.wrap (((x / 2 ^ d : Nat) : Int) + 1) = ((x / 2 ^ d + 1 : Nat) : Int) := u64_nat _ (by omega)
    rw [if_pos (by omega), e1, shl_u64 _ _ (by omega) (by omega), shl_u64 _ _ (by omega) (by omega)]
  have s8 : compact_NodeID_Sibling.f ((t + d : Nat) : Int) ((x / 2 ^ d : Nat) : Int) = some (((t + d : Nat) : Int), ((x / 2 ^ d + 1 : Nat) : Int)) := by
    unfold compact_NodeID_Sibling.f compact_NewNodeID.f
    have e1 : Go.bits .xor .u64 ((x / 2 ^ d : Nat) : Int) 1 = ((x / 2 ^ d ^^^ 1 : Nat) : Int) := by rw [show (1 : Int) = ((1 : Nat) : Int) from rfl]; exact xor64 _ 1 (by omega) (by decide)
    rw [e1, even_xor_one _ hev]
    rfl
  rw [Int.natCast_zero] at hsl hEl
  have hcn : (⟨(t : Int), (x : Int)⟩ : S106) = cn (t, x) := rfl
  unfold proof_nodes.f
  simp only [s1, s2, s3, s4, s5, s6, s7, s8, hsl, hsr, hcn, Option.bind_some, if_pos (show (0 : Int) ≤ (t : Int) ∧ (t : Int) ≤ 63 by omega), if_pos (show 1 ≤ ((d + 1 : Nat) : Int) ∧ ((d + 1 : Nat) : Int) ≤ 64 by omega),
    if_pos (show 0 ≤ (Nl'.length : Int) ∧ (Nl'.length : Int) ≤ 200 ∧ 0 ≤ (Nr'.length : Int) ∧ (Nr'.length : Int) ≤ 200 by omega)]
  refine Ev.bind hsib ?_
  refine Ev.bind hEr ?_
  have hcut : ∀ A : List S106, (A ++ Nr'.map cn).drop (((A ++ Nr'.map cn).length : Int) - (Nr'.length : Int)).toNat = Nr'.map cn := fun A => drop_app _ _ _ (by simp)
  have htak : ∀ A : List S106, (A ++ Nr'.map cn).take (((A ++ Nr'.map cn).length : Int) - (Nr'.length : Int)).toNat = A := fun A => take_app _ _ _ (by simp)
  have hcutl : ∀ A : List S106, (A ++ Nl'.map cn).drop (((A ++ Nl'.map cn).length : Int) - (Nl'.length : Int)).toNat = Nl'.map cn := fun A => drop_app _ _ _ (by simp)
  have htakl : ∀ A : List S106, (A ++ Nl'.map cn).take (((A ++ Nl'.map cn).length : Int) - (Nl'.length : Int)).toNat = A := fun A => take_app _ _ _ (by simp)
  have lA : ([cn (t, x)] ++ (sf t x d).map cn).length = d + 1 := by simp; omega
  generalize hA : [cn (t, x)] ++ (sf t x d).map cn = A at *
  simp only [if_pos (show (Nr'.length : Int) ≤ ((A ++ Nr'.map cn).length : Int) ∧ (A ++ Nr'.map cn).length ≤ 1099511627776 from ⟨by simp only [List.length_append, List.length_map]; omega, by simp only [List.length_append, List.length_map]; omega⟩), hcut, htak]
  refine Ev.bind hrr ?_
  simp only [if_pos (show (A ++ (Nr'.map cn).reverse).length = (A ++ Nr'.map cn).length by simp)]
  refine Ev.bind hEl ?_
  simp only [if_pos (show (Nl'.length : Int) ≤ ((A ++ (Nr'.map cn).reverse ++ Nl'.map cn).length : Int) ∧ (A ++ (Nr'.map cn).reverse ++ Nl'.map cn).length ≤ 1099511627776 from ⟨by simp only [List.length_append, List.length_map, List.length_reverse]; omega, by simp only [List.length_append, List.length_map, List.length_reverse]; omega⟩), hcutl, htakl]
  refine Ev.bind hrl ?_
  simp only [if_pos (show (A ++ (Nr'.map cn).reverse ++ (Nl'.map cn).reverse).length = (A ++ (Nr'.map cn).reverse ++ Nl'.map cn).length by simp)]
  have q1 : A ++ (Nr'.map cn).reverse ++ (Nl'.map cn).reverse = (pathIDs x t d Nl' Nr').map cn := by
    rw [← hA]; simp [pathIDs]
  have q2 : (if (A ++ Nr'.map cn).length ≤ A.length then (0 : Int) else (A.length : Int)) = (if Nr' = [] then 0 else ((d + 1 : Nat) : Int)) := by
    rw [List.length_append, List.length_map, lA]
    cases Nr' with
    | nil => simp
    | cons a b => rw [if_neg (by simp), if_neg (by simp)]
  have q3 : (if (A ++ Nr'.map cn).length ≤ A.length then (0 : Int) else ((A ++ Nr'.map cn).length : Int)) = (if Nr' = [] then 0 else ((d + 1 + Nr'.length : Nat) : Int)) := by
    rw [List.length_append, List.length_map, lA]
    cases Nr' with
    | nil => simp
    | cons a b => rw [if_neg (by simp), if_neg (by simp)]
  rw [q1, q2, q3]
  exact Ev.now _
end Go.Proofs.YtkmdkmlgahfcpaaDoor.Ranges
