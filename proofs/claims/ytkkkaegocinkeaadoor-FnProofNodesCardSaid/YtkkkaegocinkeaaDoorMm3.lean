-- Written by a program of ours (wip/xp) out of the translation; Lean checks it.
import Derived.Test.YtkkkaegocinkeaaDoorSq
import Derived.Test.YtkkkaegocinkeaaDoorMm1
import Derived.Test.YtkkkaegocinkeaaDoorMm2
namespace Go.Proofs.YtkkkaegocinkeaaDoor.M
open Go.RowKit Go.Proofs.YtkkkaegocinkeaaDoorW.PrintWords Go.Proofs.YtkkkaegocinkeaaDoorW.PrintLast Go.Proofs.YtkkkaegocinkeaaDoorW.PrintMore
attribute [local go_sem] max2_int min2_int max_two min_two max_three min_three max_four min_four   -- for this text's walks alone
set_option linter.unusedVariables false
set_option linter.unusedSimpArgs false

/-! ### proof_nodes: function 40 -/
def sibs : Nat → Int → Int → Int → List S52 → Option (List S52)
 | 0, _, _, _, _ => none
 | k + 1, lv, ix, fl, acc => if lv < fl then (if acc.length < 1099511627776 then (compact_NodeID_Sibling.f lv ix).bind fun s => (compact_NodeID_Parent.f lv ix).bind fun p => sibs k p.1 p.2 fl (acc ++ [(⟨s.1, s.2⟩ : S52)]) else none) else some acc
set_option maxRecDepth 100000 in
theorem reverse_end (k : Nat) (P0_ : Nat → Prop) (A : Option Addr) (cap : Nat) (xs rv : List S52) (j : Nat) (w0 w : World) (hj : j ≤ xs.length) (hB : Below w0.heap.size w0 w) (ho0 : Kd.R k52 52 w w0.heap.size P0_ (.slice A xs.length cap) xs) (h : proof_reverse.f k (xs.drop j) = some rv) :
  Calls Tryd.prog 47 #[.slice (if cap = j then A else A.map (·.add (j * 2))) (xs.length - j) (cap - j)] w fun e w' => e = .returned (.tuple #[]) ∧ Kd.R k52 52 w' w0.heap.size (fun k_ => (P0_ k_ ∨ w.heap.size ≤ k_)) (.slice A xs.length cap) (xs.take j ++ rv) ∧ Below w0.heap.size w0 w' ∧ Kept w w' (fun k_ => P0_ k_) := by
 by_cases hz : xs.length - j = 0
 ·rw [hz]
  refine (reverse_nil _ _ w).mono fun e w' ⟨he, hw⟩ => ?_
  subst hw
  have e0 : xs.drop j = [] := List.drop_of_length_le (by omega)
  rw [e0] at h
  have hrv : rv = [] := by
   unfold proof_reverse.f at h
   cases k with
   | zero => simp [proof_reverse.l0] at h
   | succ k => simp [proof_reverse.l0, wrap64] at h; exact h
  subst hrv
  rw [List.take_of_length_le (by omega), List.append_nil]
  exact ⟨he, Kd.R_mono ho0 (fun _ h => .inl h), hB, Kept.refl _ _⟩
 ·have hcap := (Kd.R_reads' ho0).2.1
  rw [if_neg (by omega)]
  cases A with
  | none =>
   exfalso
   obtain ⟨_, inner, ho, _⟩ := ho0
   rcases ho.2 with ⟨_, h0⟩ | ⟨g', cap', cur, hv', _⟩
   ·omega
   ·cases hv'
  | some ad =>
   obtain ⟨g, rfl⟩ := Kd.R_head ho0
   have hl : (xs.take j).length = j := by rw [List.length_take]; omega
   have hd : (xs.drop j).length = xs.length - j := List.length_drop
   have ha : xs.take j ++ xs.drop j = xs := List.take_append_drop j xs
   have := reverse_cut k P0_ g (j * 2) cap (cap - j) (xs.take j) (xs.drop j) rv w0 w hB (by rw [hl]) (by rw [ha]; exact ho0) h
   rw [ha, hd] at this
   have e : (some (⟨g, 0, none⟩ : Addr)).map (·.add (j * 2)) = some ⟨g, j * 2, none⟩ := by rw [Option.map_some, add_at, Nat.zero_add]
   rw [e]
   exact this
theorem reverse_endv (k : Nat) (P0_ : Nat → Prop) (v : Value) (A : Option Addr) (cap : Nat) (xs rv : List S52) (j : Nat) (w0 w : World) (hv : v = .slice (if cap = j then A else A.map (·.add (j * 2))) (xs.length - j) (cap - j)) (hj : j ≤ xs.length) (hB : Below w0.heap.size w0 w) (ho0 : Kd.R k52 52 w w0.heap.size P0_ (.slice A xs.length cap) xs) (h : proof_reverse.f k (xs.drop j) = some rv) :
  Calls Tryd.prog 47 #[v] w fun e w' => e = .returned (.tuple #[]) ∧ Kd.R k52 52 w' w0.heap.size (fun k_ => (P0_ k_ ∨ w.heap.size ≤ k_)) (.slice A xs.length cap) (xs.take j ++ rv) ∧ Below w0.heap.size w0 w' ∧ Kept w w' (fun k_ => P0_ k_) := by
 subst hv
 exact reverse_end k P0_ A cap xs rv j w0 w hj hB ho0 h
theorem nd_cut (A : Option Addr) (c n j : Nat) (hj : j ≤ n) : ∃ v : Value, v = .slice (if c = j then A else A.map (·.add (j * 2))) (n - j) (c - j) ∧ ∀ W, (Instr.slice 51 (.slice A n c) (some (.int .i64 (j : Int))) none none).run Tryd.prog W = .ok v W := by
 obtain ⟨i0, hi, _, hsz, _⟩ := info_parts info52
 refine ⟨_, rfl, fun W => ?_⟩
 have h := cut_from (P := Tryd.prog) 51 52 .i64 Tryd.underlying51 hi 2 hsz A n c (j : Int) (by omega) (by omega) W
 rw [Int.toNat_natCast] at h
 exact h
set_option maxRecDepth 100000 in
theorem nd_made (P : Nat → Prop) (W : World) (B : Nat) (M : Array Value) (c : Nat) (hM : M.size = c * 2) (hb : B ≤ W.heap.size) (hc : c ≤ maxLen) (hP : P W.heap.size) :
  Kd.R k52 52 (W.alloc (.cells M 52)) B P (.slice (some ⟨W.heap.size, 0, none⟩) 0 c) [] := by
 refine ⟨fun k hk => ?_, [], World.ownsRow_made W M c hb hc hM, ?_⟩
 ·have : W.heap.size = k := by simpa [Value.ownBlock] using hk
  rw [← this]; exact hP
 ·exact ⟨rfl, fun j p hj => by simp at hj⟩
theorem nd_size (W : World) (o : Obj) : (W.alloc o).heap.size = W.heap.size + 1 := by simp
set_option maxRecDepth 100000 in
theorem nd_lit (W : World) (b : Nat) (x y : Int) (h : W.heap[b]? = some (.cells #[.int .u64 x, .int .u64 y] 52 (0, 0))) : Kd.C k52 W (some ⟨b, 0, none⟩) 1 [(⟨x, y⟩ : S52)] := by
 refine ⟨rfl, by decide, fun _ => ⟨_, rfl, fun j p hj => ?_⟩⟩
 match j, hj with
 | 0, hj =>
  injection hj with hj
  subst hj
  refine ⟨[.int .u64 x, .int .u64 y], rfl, ⟨[.int .u64 x], [.int .u64 y], rfl, rfl, rfl⟩, fun i u hu => ?_⟩
  ·match i, hu with
   | 0, hu => injection hu with hu; subst hu; exact (blk_cell h 0).trans rfl
   | 1, hu => injection hu with hu; subst hu; exact (blk_cell h 1).trans rfl
set_option maxHeartbeats 8000000 in
set_option maxRecDepth 100000 in
theorem nodes_a (k : Nat) (a0 a1 a2 : Int) (w : World) (hT : TabOK w) (s1 x1 inn fl fi c1 c2 lf rt : Int) (b0 : 0 ≤ a1) (b1 : a1 ≤ 63) (hs1 : shr .u64 a2 a1 = s1) (hx1 : Go.bits .xor .u64 a0 s1 = x1) (hL : bits_Len64.f x1 = some (inn + 1)) (i0 : 0 ≤ inn) (i1 : inn ≤ 63)
  (hfl : a1 + inn = fl) (hfi : shr .u64 a0 inn = fi) (hcv : compact_NodeID_Coverage.f fl fi = some (c1, c2)) (hlf : compact_RangeSize.f 0 c1 = some lf) (hrt : compact_RangeSize.f c2 a2 = some rt) (l0 : 0 ≤ lf) (l1 : lf ≤ 200) (r0 : 0 ≤ rt) (r1 : rt ≤ 200) (n1 : List S52) (hn1 : sibs k a1 a0 fl [(⟨a1, a0⟩ : S52)] = some n1)
  (n2 v2 n3 v3 : List S52) (e1 e2 : Int) (hn2 : compact_RangeNodes.f k c2 a2 n1 = some n2) (g2 : rt ≤ (n2.length : Int)) (q2 : n2.length ≤ 1099511627776) (hv2 : proof_reverse.f k (n2.drop ((n2.length : Int) - rt).toNat) = some v2) (hn3 : compact_RangeNodes.f k 0 c1 (n2.take ((n2.length : Int) - rt).toNat ++ v2) = some n3) (g3 : lf ≤ (n3.length : Int)) (q3 : n3.length ≤ 1099511627776) (hv3 : proof_reverse.f k (n3.drop ((n3.length : Int) - lf).toNat) = some v3) (he : compact_NodeID_Sibling.f fl fi = some (e1, e2)) (hl2 : (n2.take ((n2.length : Int) - rt).toNat ++ v2).length = n2.length) (hl3 : (n3.take ((n3.length : Int) - lf).toNat ++ v3).length = n3.length) :
  Calls Tryd.prog 40 #[.int .u64 a0, .int .u64 a1, .int .u64 a2] w fun e w' => ∃ v0_ : Value, e = .returned (.agg #[v0_, .int .i64 (if n2.length ≤ n1.length then 0 else (n1.length : Int)), .int .i64 (if n2.length ≤ n1.length then 0 else (n2.length : Int)), .int .u64 e1, .int .u64 e2]) ∧ Kd.R k52 52 w' w.heap.size (fun _ => True) v0_ (n3.take ((n3.length : Int) - lf).toNat ++ v3) ∧ Below w.heap.size w w' := by
 have hu := Tryd.underlying61
 have hu2 := Tryd.underlying52
 have hs1z : a2 / 2 ^ a1.toNat = s1 := shr_small hs1 (by show a1 ≤ 64; omega)
 have hfiz : a0 / 2 ^ inn.toNat = fi := shr_small hfi (by show inn ≤ 64; omega)
 have HT := Aside0.mk hT
 have HLn := Aside0.mk hL
 have HCV := Aside0.mk hcv
 have HLF := Aside0.mk hlf
 have HRT := Aside0.mk hrt
 clear hT hL hcv hlf hrt
 go_enter Tryd.func40, Tryd.ntmps40
 go_upto_region 7 with (first
  | (go_at_call 38; (with_reducible refine (bits_Len64.calls x1 (inn + 1) _ HLn.out).mono ?_); rintro e w1 ⟨rfl, ⟨nd, rfl⟩⟩; have kR := blk_drewN (blk_new w (Obj.cells #[.slice none 0 0, .int .i64 0, .int .i64 0, .int .u64 0, .int .u64 0] 61)) nd; have hB0 := pw_below_drewN (below_alloc (Below.refl w.heap.size w) (Obj.cells #[.slice none 0 0, .int .i64 0, .int .i64 0, .int .u64 0, .int .u64 0] 61)) nd; generalize World.drewN (World.alloc w _) nd = W1 at kR hB0 ⊢)
  | (go_at_call 36; (with_reducible refine (compact_NewNodeID.calls fl fi fl fi _ rfl).mono ?_); rintro e w2 ⟨rfl, hB⟩; replace kR := blk_below kR hB; replace hB0 := below_step hB0 hB; clear hB)
  | (go_at_call 36; (with_reducible refine (compact_NewNodeID.calls a1 a0 a1 a0 _ rfl).mono ?_); rintro e w6 ⟨rfl, hB⟩; replace kR := blk_below kR hB; replace kF := blk_below kF hB; replace hB0 := below_step hB0 hB; clear hB)
  | (go_at_call 24; (with_reducible refine (compact_NodeID_Coverage.calls fl fi c1 c2 _ HCV.out).mono ?_); rintro e w3 ⟨rfl, hB⟩; have kF := blk_below (blk_new w2 (Obj.cells #[.int .u64 fl, .int .u64 fi] 52)) hB; have nFR := blk_lt kR; replace kR := blk_below (blk_alloc kR _) hB; replace hB0 := below_step (below_alloc hB0 _) hB; clear hB; generalize w2.heap.size = bF at kF nFR ⊢)
  | (go_at_call 30; (with_reducible refine (compact_RangeSize.calls 0 c1 lf _ HLF.out).mono ?_); rintro e w' ⟨rfl, ⟨nd, rfl⟩⟩; replace kR := blk_drewN kR nd; replace kF := blk_drewN kF nd; replace hB0 := pw_below_drewN hB0 nd; generalize World.drewN w3 nd = w4 at kR kF hB0 ⊢)
  | (go_at_call 30; (with_reducible refine (compact_RangeSize.calls c2 a2 rt _ HRT.out).mono ?_); rintro e w' ⟨rfl, ⟨nd, rfl⟩⟩; replace kR := blk_drewN kR nd; replace kF := blk_drewN kF nd; replace hB0 := pw_below_drewN hB0 nd; generalize World.drewN w4 nd = w5 at kR kF hB0 ⊢))
 have kN := blk_new w6 (Obj.cells #[.int .u64 a1, .int .u64 a0] 52)
 have nNF := blk_lt kF
 replace kF := blk_alloc kF (Obj.cells #[.int .u64 a1, .int .u64 a0] 52)
 replace kR := blk_alloc kR (Obj.cells #[.int .u64 a1, .int .u64 a0] 52)
 replace hB0 := below_alloc hB0 (Obj.cells #[.int .u64 a1, .int .u64 a0] 52)
 generalize w6.heap.size = bN at kN nNF ⊢
 generalize World.alloc w6 _ = w7 at kN kF kR hB0 ⊢
 have HKR := Aside0.mk kR
 have HKF := Aside0.mk kF
 have HKN := Aside0.mk kN
 have HB0 := Aside0.mk hB0
 have nNl := blk_lt kN
 clear kR kF hB0
 obtain ⟨cp, hcp⟩ : ∃ cp, 1 + inn + rt + lf = cp := ⟨_, rfl⟩
 go_cut [14] from 45 to 54 (fun v14 wc => Aside0 (Kd.R k52 52 wc w.heap.size (fun k_ => w7.heap.size ≤ k_) v14 [(⟨a1, a0⟩ : S52)]) ∧ Aside0 (Below w7.heap.size w7 wc))
 case first =>
  have ecN0 : w7.cell? ⟨bN, 0, none⟩ = some (.int .u64 a1) := (blk_cell kN 0).trans rfl
  have ecN1 : w7.cell? ⟨bN, 1, none⟩ = some (.int .u64 a0) := (blk_cell kN 1).trans rfl
  clear kN
  obtain ⟨cn, hcn⟩ := Int.eq_ofNat_of_zero_le (show 0 ≤ cp by omega)
  subst hcn
  have cn1 : cn ≤ 1000 := by omega
  obtain ⟨p1, hp1⟩ : ∃ p1, 1 + inn = p1 := ⟨_, rfl⟩
  obtain ⟨p2, hp2⟩ : ∃ p2, p1 + rt = p2 := ⟨_, rfl⟩
  have hw1 : IntKind.i64.wrap (1 + inn) = p1 := by rw [i64_w]; unfold wrap64; omega
  have hw2 : IntKind.i64.wrap (p1 + rt) = p2 := by rw [i64_w]; unfold wrap64; omega
  have hw3 : IntKind.i64.wrap (p2 + lf) = (cn : Int) := by rw [i64_w]; unfold wrap64; omega
  clear hp1 hp2
  obtain ⟨M, hM, hmk⟩ : ∃ M : Array Value, M.size = cn * 2 ∧ ∀ W : World, (Instr.makeSlice 51 (.int .i64 0) (.int .i64 (cn : Int))).run Tryd.prog W = .ok (.slice (some ⟨W.heap.size, 0, none⟩) 0 cn) (W.alloc (.cells M 52)) := by
   obtain ⟨i0, hi, hzz⟩ := Option.map_eq_some_iff.1 info52
   simp only [Prod.mk.injEq] at hzz
   obtain ⟨hz0, hz1, hz2⟩ := hzz
   refine ⟨madeCells (Value.agg #[.int .u64 0, .int .u64 0]).cells (cn * 2), size_madeCells _ _, fun W => ?_⟩
   have h := run_make (P := Tryd.prog) W 51 52 i0 _ Tryd.underlying51 hi hz0 .i64 .i64 0 (cn : Int) (by decide) (by omega) (by rw [hz2]; omega) (by omega)
   rw [hz1] at h
   exact h
  have HM := Aside0.mk hM
  clear hM
  go_region_law (first | (refine Kd.R_append_rows_step k52 (Rr := k52.K _) (w0 := w7) w7.heap.size (by rfl) (.tmp 51) (.tmp 53) 51 52 (.agg #[.int .u64 0, .int .u64 0]) 16 (by rfl) Tryd.underlying51 info52 rfl (by decide) (by decide) (.slice (some ⟨w7.heap.size, 0, none⟩) 0 cn) ([] : List S52) [(⟨a1, a0⟩ : S52)] (some ⟨w7.heap.size + 1, 0, none⟩) 1 1 (fun k_ => w7.heap.size ≤ k_) (fun _ => False) (by rfl) (by rfl) (Kd.R_drew (Kd.R_alloc (nd_made (fun k_ => w7.heap.size ≤ k_) w7 w7.heap.size M cn HM.out (Nat.le_refl _) (by unfold maxLen; omega) (Nat.le_refl _)) _)) (nd_lit _ _ a1 a0 (by have h := blk_drew (blk_new (w7.alloc (Obj.cells M 52)) (Obj.cells #[.int .u64 a1, .int .u64 a0] 52)); rwa [nd_size] at h)) (fun x cs hx => hx) (fun _ h => h.elim) (fun k_ h_ => Nat.le_trans (below_drew (below_alloc (below_alloc (Below.refl w7.heap.size w7) (Obj.cells M 52)) (Obj.cells #[.int .u64 a1, .int .u64 a0] 52))).size h_) (below_drew (below_alloc (below_alloc (Below.refl w7.heap.size w7) (Obj.cells M 52)) (Obj.cells #[.int .u64 a1, .int .u64 a0] 52))) (below_drew (below_alloc (below_alloc (Below.refl w7.heap.size w7) (Obj.cells M 52)) (Obj.cells #[.int .u64 a1, .int .u64 a0] 52))).size (by simp) ?_; intro v1 w1 hR1 hb1 hg1 hat1) | (refine Kd.R_append_rows_step k52 (Rr := k52.K _) (w0 := w7) w7.heap.size (by rfl) (.tmp 51) (.tmp 53) 51 52 (.agg #[.int .u64 0, .int .u64 0]) 16 (by rfl) Tryd.underlying51 info52 rfl (by decide) (by decide) (.slice (some ⟨w7.heap.size + 1, 0, none⟩) 0 cn) ([] : List S52) [(⟨a1, a0⟩ : S52)] (some ⟨w7.heap.size, 0, none⟩) 1 1 (fun k_ => w7.heap.size ≤ k_) (fun _ => False) (by rfl) (by rfl) (by have h := Kd.R_drew (nd_made (fun k_ => w7.heap.size ≤ k_) (w7.alloc (Obj.cells #[.int .u64 a1, .int .u64 a0] 52)) w7.heap.size M cn HM.out (by rw [nd_size]; omega) (by unfold maxLen; omega) (by rw [nd_size]; omega)); rwa [nd_size] at h) (nd_lit _ _ a1 a0 (blk_drew (blk_alloc (blk_new w7 (Obj.cells #[.int .u64 a1, .int .u64 a0] 52)) (Obj.cells M 52)))) (fun x cs hx => hx) (fun _ h => h.elim) (fun k_ h_ => Nat.le_trans (below_drew (below_alloc (below_alloc (Below.refl w7.heap.size w7) (Obj.cells #[.int .u64 a1, .int .u64 a0] 52)) (Obj.cells M 52))).size h_) (below_drew (below_alloc (below_alloc (Below.refl w7.heap.size w7) (Obj.cells #[.int .u64 a1, .int .u64 a0] 52)) (Obj.cells M 52))) (below_drew (below_alloc (below_alloc (Below.refl w7.heap.size w7) (Obj.cells #[.int .u64 a1, .int .u64 a0] 52)) (Obj.cells M 52))).size (by simp) ?_; intro v1 w1 hR1 hb1 hg1 hat1))
  all_goals
   go_wp2
   go_meet
   case rel => exact ⟨⟨Kd.R_lower hR1 HB0.out.size⟩, ⟨hb1⟩⟩
 case rest =>
  obtain ⟨HR0, HBc⟩ := hcut
  clear kN
  have hbs := HBc.out.size
  have HK1 := Aside0.mk (blk_below HKR.out HBc.out)
  have HK2 := Aside0.mk (blk_below HKF.out HBc.out)
  have HK3 := Aside0.mk (blk_below HKN.out HBc.out)
  have HB1 := Aside0.mk (below_step HB0.out HBc.out)
  have HR1 := Aside0.mk (Kd.R_mono (ok' := (fun k_ => k_ ≠ w.heap.size ∧ k_ ≠ bF ∧ k_ ≠ bN)) HR0.out (fun k_ hk => ⟨by omega, by omega, by omega⟩))
  have HS := Aside0.mk hn1
  clear hn1 HR0 HBc HKR HKF HKN HB0
  go_wp2
  go_loopg [14] k (fun kq v14 w' => ∃ (lv ix : Int) (xs : List S52), Aside0 (w'.heap[bN]? = some (.cells #[.int .u64 lv, .int .u64 ix] 52 (0, 0))) ∧ Aside0 (sibs kq lv ix fl xs = some n1) ∧ Aside0 (kq ≤ k) ∧ Aside0 (Kd.R k52 52 w' w.heap.size (fun k_ => k_ ≠ w.heap.size ∧ k_ ≠ bF ∧ k_ ≠ bN) v14 xs) ∧ Aside0 (w'.heap[bF]? = some (.cells #[.int .u64 fl, .int .u64 fi] 52 (0, 0))) ∧ Aside0 (w'.heap[w.heap.size]? = some (.cells #[.slice none 0 0, .int .i64 0, .int .i64 0, .int .u64 0, .int .u64 0] 61 (0, 0))) ∧ Aside0 (Below w.heap.size w w'))
  case atStart => exact ⟨a1, a0, _, HK3, HS, ⟨Nat.le_refl _⟩, HR1, HK2, HK1, HB1⟩
  case round =>
   clear HK1 HK2 HK3 HB1 HR1 HS
   obtain ⟨lv, ix, xs, HKn, HA, HKq, HR, HKf, HKr, HB⟩ := hrel
   cases gk with
   | zero => exact absurd HA.out (by simp [sibs])
   | succ kk =>
    have H := HA.out
    clear HA
    simp only [sibs] at H
    have eN0 : wr.cell? ⟨bN, 0, none⟩ = some (.int .u64 lv) := (blk_cell HKn.out 0).trans rfl
    have eN1 : wr.cell? ⟨bN, 1, none⟩ = some (.int .u64 ix) := (blk_cell HKn.out 1).trans rfl
    have eF0 : wr.cell? ⟨bF, 0, none⟩ = some (.int .u64 fl) := (blk_cell HKf.out 0).trans rfl
    have eF1 : wr.cell? ⟨bF, 1, none⟩ = some (.int .u64 fi) := (blk_cell HKf.out 1).trans rfl
    by_cases c : lv < fl
    ·rw [if_pos c] at H
     by_cases cl : xs.length < 1099511627776
     ·rw [if_pos cl] at H
      obtain ⟨⟨s1', s2'⟩, hs, H⟩ := Option.bind_eq_some_iff.mp H
      obtain ⟨⟨p1', p2'⟩, hp, H⟩ := Option.bind_eq_some_iff.mp H
      have HSb := Aside0.mk hs
      have HPa := Aside0.mk hp
      have HN := Aside0.mk H
      clear hs hp H
      obtain ⟨A9, c9, rfl⟩ := Kd.R_slice HR.out
      go_wp2_with (first
       | (go_at_call 26; (with_reducible refine (compact_NodeID_Sibling.calls lv ix s1' s2' _ HSb.out).mono ?_); rintro e w1 ⟨rfl, hB⟩; replace eN0 := (hB.cell (World.block_lt_of_cell? wr _ eN0)).trans eN0; replace eN1 := (hB.cell (World.block_lt_of_cell? wr _ eN1)).trans eN1; have HR2 := Aside0.mk (Kd.R_below HR.out hB); have HKn2 := Aside0.mk (blk_below HKn.out hB); have HKf2 := Aside0.mk (blk_below HKf.out hB); have HKr2 := Aside0.mk (blk_below HKr.out hB); have HB2 := Aside0.mk (below_step HB.out hB); clear hB)
       | ((with_reducible refine gate_builtin (b := .append) (xs := #[.tmp 62, .tmp 65]) rfl ?_); at_builtin; refine Kd.R_append k52 (w0 := w) w.heap.size rfl (.tmp 62) (.tmp 65) 51 52 (.agg #[.int .u64 0, .int .u64 0]) 16 rfl Tryd.underlying51 info52 rfl (by decide) (by omega) (.slice A9 xs.length c9) xs (⟨s1', s2'⟩ : S52) [.int .u64 s1', .int .u64 s2'] (fun k_ => k_ ≠ w.heap.size ∧ k_ ≠ bF ∧ k_ ≠ bN) (fun _ => False) rfl rfl (k52_mkM _ _ _ (⟨s1', s2'⟩ : S52)) (fun _ hk => hk.elim) (fun k_ hk => ⟨by have := blk_lt HKr2.out; omega, by have := blk_lt HKf2.out; omega, by have := blk_lt HKn2.out; omega⟩) HR2.out HB2.out HB2.out.size (by omega) ?_; intro v8 w8 ho hb hg hat; have HR3 := Aside0.mk ho; have HB3 := Aside0.mk hb; have HKn3 := Aside0.mk (blk_grown HKn2.out hg (fun e => (HR2.out.1 _ e.symm).2.2 rfl)); have HKf3 := Aside0.mk (blk_grown HKf2.out hg (fun e => (HR2.out.1 _ e.symm).2.1 rfl)); have HKr3 := Aside0.mk (blk_grown HKr2.out hg (fun e => (HR2.out.1 _ e.symm).1 rfl)); clear ho hb hg hat; clear eN0 eN1; have eN0 : w8.cell? ⟨bN, 0, none⟩ = some (.int .u64 lv) := (blk_cell HKn3.out 0).trans rfl; have eN1 : w8.cell? ⟨bN, 1, none⟩ = some (.int .u64 ix) := (blk_cell HKn3.out 1).trans rfl)
       | (go_at_call 46; (with_reducible refine (compact_NodeID_Parent.calls lv ix p1' p2' _ HPa.out).mono ?_); rintro e w9 ⟨rfl, hB⟩; replace eN0 := (hB.cell (World.block_lt_of_cell? w8 _ eN0)).trans eN0; replace eN1 := (hB.cell (World.block_lt_of_cell? w8 _ eN1)).trans eN1; have HR4 := Aside0.mk (Kd.R_below HR3.out hB); have HKn4 := Aside0.mk (blk_below HKn3.out hB); have HKf4 := Aside0.mk (blk_below HKf3.out hB); have HKr4 := Aside0.mk (blk_below HKr3.out hB); have HB4 := Aside0.mk (below_step HB3.out hB); have f0 := blk_frozen HKn4.out 0; have f1 := blk_frozen HKn4.out 1; clear hB))
      go_roundg kk
      case measure => have := HKq.out; omega
      case rel =>
       have hne1 : ∀ k_, k_ ≠ w.heap.size ∧ k_ ≠ bF ∧ k_ ≠ bN → k_ ≠ bN := fun _ h => h.2.2
       exact ⟨p1', p2', xs ++ [(⟨s1', s2'⟩ : S52)], ⟨blk_put (blk_put HKn4.out 0 _ rfl) 1 _ rfl⟩, HN, ⟨by have := HKq.out; omega⟩, ⟨Kd.R_far (p := ⟨bN, 1, none⟩) (Kd.R_far (p := ⟨bN, 0, none⟩) HR4.out hne1 _) hne1 _⟩, ⟨blk_far (blk_far HKf4.out (by simp; omega) _) (by simp; omega) _⟩, ⟨blk_far (blk_far HKr4.out (by simp; omega) _) (by simp; omega) _⟩, ⟨(HB4.out.setCell (by simp; omega) _).setCell (by simp; omega) _⟩⟩
     ·rw [if_neg cl] at H; exact absurd H (by simp)
    ·rw [if_neg c] at H
     have HXN := Aside0.mk (Option.some.inj H)
     clear H
     have bc : decide (lv < fl) = false := decide_eq_false c
     have GG := Aside0.mk HXN.out
     rw [HXN.out] at HR
     clear HXN
     obtain ⟨A9, c9, rfl⟩ := Kd.R_slice HR.out
     obtain ⟨j2, hj2⟩ : ∃ j2 : Nat, (n2.length : Int) - rt = (j2 : Int) := ⟨((n2.length : Int) - rt).toNat, by omega⟩
     obtain ⟨j3, hj3⟩ : ∃ j3 : Nat, (n3.length : Int) - lf = (j3 : Int) := ⟨((n3.length : Int) - lf).toNat, by omega⟩
     have hw2 : IntKind.i64.wrap ((n2.length : Int) - rt) = (j2 : Int) := by rw [i64_w]; unfold wrap64; omega
     have hw3 : IntKind.i64.wrap ((n3.length : Int) - lf) = (j3 : Int) := by rw [i64_w]; unfold wrap64; omega
     rw [hj2, Int.toNat_natCast] at hv2 hn3 hl2
     rw [hj3, Int.toNat_natCast] at hv3 hl3
     obtain ⟨z2, hz2⟩ : ∃ z, z = n2.take j2 ++ v2 := ⟨_, rfl⟩
     obtain ⟨z3, hz3⟩ : ∃ z, z = n3.take j3 ++ v3 := ⟨_, rfl⟩
     have HJ3 := Aside0.mk hj3
     rw [← hz2] at hn3 hl2
     rw [← hz3] at hl3
     have HZ2 := Aside0.mk hz2
     have HZ3 := Aside0.mk hz3
     have HL2 := Aside0.mk hl2
     have HL3 := Aside0.mk hl3
     have HN2 := Aside0.mk hn2
     have HV2 := Aside0.mk hv2
     have HN3 := Aside0.mk hn3
     have HV3 := Aside0.mk hv3
     have HE := Aside0.mk he
     have jb2 : j2 ≤ n2.length := by omega
     have jb3 : j3 ≤ n3.length := by omega
     clear hn2 hv2 hn3 hv3 he hl2 hl3 hz2 hz3
     go_upto_region 13 with (go_at_call 23; (with_reducible refine (compact_RangeNodes.calls k c2 a2 (fun k_ => k_ ≠ w.heap.size ∧ k_ ≠ bF ∧ k_ ≠ bN) _ n1 n2 w _ HT.out HB.out HR.out HN2.out).mono ?_); rintro e w11 ⟨v, rfl, hR, hB, hK⟩; obtain ⟨A11, c11, rfl⟩ := Kd.R_slice hR; have HR11 := Aside0.mk (Kd.R_mono (ok' := (fun k_ => k_ ≠ w.heap.size ∧ k_ ≠ bF ∧ k_ ≠ bN)) hR (fun k_ hk => hk.elim id (fun hk => ⟨by have := blk_lt HKr.out; omega, by have := blk_lt HKf.out; omega, by have := blk_lt HKn.out; omega⟩))); have HKn11 := Aside0.mk ((hK.2 _ (blk_lt HKn.out) (fun h => h.2.2 rfl)).trans HKn.out); have HKf11 := Aside0.mk ((hK.2 _ (blk_lt HKf.out) (fun h => h.2.1 rfl)).trans HKf.out); have HKr11 := Aside0.mk ((hK.2 _ (blk_lt HKr.out) (fun h => h.1 rfl)).trans HKr.out); have HB11 := Aside0.mk hB; clear hR hB hK)
     obtain ⟨q2v, hq2, hc2⟩ := nd_cut A11 c11 n2.length j2 jb2
     have HQ2 := Aside0.mk hq2
     clear hq2
     go_upto_region 16 with (first | (go_at_call 47; (with_reducible refine (reverse_endv k (fun k_ => k_ ≠ w.heap.size ∧ k_ ≠ bF ∧ k_ ≠ bN) q2v A11 c11 n2 v2 j2 w _ HQ2.out (by omega) HB11.out HR11.out HV2.out).mono ?_); rintro e w12 ⟨rfl, hR, hB, hK⟩; have HR12 := Aside0.mk (show Kd.R k52 52 w12 w.heap.size (fun k_ => k_ ≠ w.heap.size ∧ k_ ≠ bF ∧ k_ ≠ bN) (.slice A11 n2.length c11) z2 from by rw [HZ2.out]; exact Kd.R_mono (ok' := (fun k_ => k_ ≠ w.heap.size ∧ k_ ≠ bF ∧ k_ ≠ bN)) hR (fun k_ hk => hk.elim id (fun hk => ⟨by have := blk_lt HKr11.out; omega, by have := blk_lt HKf11.out; omega, by have := blk_lt HKn11.out; omega⟩))); have HKn12 := Aside0.mk ((hK.2 _ (blk_lt HKn11.out) (fun h => h.2.2 rfl)).trans HKn11.out); have HKf12 := Aside0.mk ((hK.2 _ (blk_lt HKf11.out) (fun h => h.2.1 rfl)).trans HKf11.out); have HKr12 := Aside0.mk ((hK.2 _ (blk_lt HKr11.out) (fun h => h.1 rfl)).trans HKr11.out); have HB12 := Aside0.mk hB; clear hR hB hK) | (go_at_call 23; (with_reducible refine (compact_RangeNodes.calls k 0 c1 (fun k_ => k_ ≠ w.heap.size ∧ k_ ≠ bF ∧ k_ ≠ bN) _ z2 n3 w _ HT.out HB12.out HR12.out HN3.out).mono ?_); rintro e w13 ⟨v, rfl, hR, hB, hK⟩; obtain ⟨A13, c13, rfl⟩ := Kd.R_slice hR; have HR13 := Aside0.mk (Kd.R_mono (ok' := (fun k_ => k_ ≠ w.heap.size ∧ k_ ≠ bF ∧ k_ ≠ bN)) hR (fun k_ hk => hk.elim id (fun hk => ⟨by have := blk_lt HKr12.out; omega, by have := blk_lt HKf12.out; omega, by have := blk_lt HKn12.out; omega⟩))); have HKn13 := Aside0.mk ((hK.2 _ (blk_lt HKn12.out) (fun h => h.2.2 rfl)).trans HKn12.out); have HKf13 := Aside0.mk ((hK.2 _ (blk_lt HKf12.out) (fun h => h.2.1 rfl)).trans HKf12.out); have HKr13 := Aside0.mk ((hK.2 _ (blk_lt HKr12.out) (fun h => h.1 rfl)).trans HKr12.out); have HB13 := Aside0.mk hB; clear hR hB hK))
     obtain ⟨q3v, hq3, hc3⟩ := nd_cut A13 c13 n3.length j3 jb3
     have HQ3 := Aside0.mk hq3
     clear hq3
     by_cases cc : n2.length ≤ n1.length
     ·have cc0 : (n2.length : Int) ≤ (n1.length : Int) := by omega
      have cc1 : decide ((n2.length : Int) ≤ (n1.length : Int)) = true := decide_eq_true cc0
      go_wp2_with (first
       | (go_at_call 47; (with_reducible refine (reverse_endv k (fun k_ => k_ ≠ w.heap.size ∧ k_ ≠ bF ∧ k_ ≠ bN) q3v A13 c13 n3 v3 j3 w _ HQ3.out (by omega) HB13.out HR13.out HV3.out).mono ?_); rintro e w14 ⟨rfl, hR, hB, hK⟩; have HR14 := Aside0.mk (show Kd.R k52 52 w14 w.heap.size (fun k_ => k_ ≠ w.heap.size ∧ k_ ≠ bF ∧ k_ ≠ bN) (.slice A13 n3.length c13) z3 from by rw [HZ3.out]; exact Kd.R_mono (ok' := (fun k_ => k_ ≠ w.heap.size ∧ k_ ≠ bF ∧ k_ ≠ bN)) hR (fun k_ hk => hk.elim id (fun hk => ⟨by have := blk_lt HKr13.out; omega, by have := blk_lt HKf13.out; omega, by have := blk_lt HKn13.out; omega⟩))); have HKf14 := Aside0.mk ((hK.2 _ (blk_lt HKf13.out) (fun h => h.2.1 rfl)).trans HKf13.out); have HKr14 := Aside0.mk ((hK.2 _ (blk_lt HKr13.out) (fun h => h.1 rfl)).trans HKr13.out); have HB14 := Aside0.mk hB; clear hR hB hK; have gF0 : w14.cell? ⟨bF, 0, none⟩ = some (.int .u64 fl) := (blk_cell HKf14.out 0).trans rfl; have gF1 : w14.cell? ⟨bF, 1, none⟩ = some (.int .u64 fi) := (blk_cell HKf14.out 1).trans rfl)
       | (go_at_call 26; (with_reducible refine (compact_NodeID_Sibling.calls fl fi e1 e2 _ HE.out).mono ?_); rintro e w15 ⟨rfl, hB⟩; have HR15 := Aside0.mk (Kd.R_below HR14.out hB); have HKr15 := Aside0.mk (blk_below HKr14.out hB); have HB15 := Aside0.mk (below_step HB14.out hB); clear hB; have f0 := blk_frozen HKr15.out 0; have f1 := blk_frozen HKr15.out 1; have f2 := blk_frozen HKr15.out 2; have f3 := blk_frozen HKr15.out 3; have f4 := blk_frozen HKr15.out 4; have r0 : w15.cell? ⟨w.heap.size, 0, none⟩ = some (.slice none 0 0) := (blk_cell HKr15.out 0).trans rfl; have r1 : w15.cell? ⟨w.heap.size, 1, none⟩ = some (.int .i64 0) := (blk_cell HKr15.out 1).trans rfl; have r2 : w15.cell? ⟨w.heap.size, 2, none⟩ = some (.int .i64 0) := (blk_cell HKr15.out 2).trans rfl; have r3 : w15.cell? ⟨w.heap.size, 3, none⟩ = some (.int .u64 0) := (blk_cell HKr15.out 3).trans rfl; have r4 : w15.cell? ⟨w.heap.size, 4, none⟩ = some (.int .u64 0) := (blk_cell HKr15.out 4).trans rfl))
      have hne1 : ∀ k_, k_ ≠ w.heap.size ∧ k_ ≠ bF ∧ k_ ≠ bN → k_ ≠ w.heap.size := fun _ h => h.1
      refine bodyPost_ret (results_cell_row rfl _ _ w.heap.size 61 #[(.slice A13 n3.length c13), (.int .i64 0), (.int .i64 0), (.int .u64 e1), (.int .u64 e2)] (0, 0) _ rfl (blk_put (cs := #[(.slice A13 n3.length c13), (.int .i64 0), (.int .i64 0), (.int .u64 e1), (.int .u64 0)]) (blk_put (cs := #[(.slice A13 n3.length c13), (.int .i64 0), (.int .i64 0), (.int .u64 0), (.int .u64 0)]) (blk_put (cs := #[(.slice A13 n3.length c13), (.int .i64 0), (.int .i64 0), (.int .u64 0), (.int .u64 0)]) (blk_put (cs := #[(.slice A13 n3.length c13), (.int .i64 0), (.int .i64 0), (.int .u64 0), (.int .u64 0)]) (blk_put (cs := #[(.slice none 0 0), (.int .i64 0), (.int .i64 0), (.int .u64 0), (.int .u64 0)]) HKr15.out 0 _ rfl) 1 _ rfl) 2 _ rfl) 3 _ rfl) 4 _ rfl) Tryd.underlying61 rfl (by kernel_rfl)) rfl ?_
      refine ⟨.slice A13 n3.length c13, ?_, ?_, (below_set (below_set (below_set (below_set (below_set HB15.out (Nat.le_refl _)) (Nat.le_refl _)) (Nat.le_refl _)) (Nat.le_refl _)) (Nat.le_refl _))⟩
      ·first | rfl | rw [if_pos cc, if_pos cc]
      ·first | rw [← HZ3.out] | rw [HJ3.out, Int.toNat_natCast, ← HZ3.out]
       exact Kd.R_mono (Kd.R_far (p := ⟨w.heap.size, 4, none⟩) (Kd.R_far (p := ⟨w.heap.size, 3, none⟩) (Kd.R_far (p := ⟨w.heap.size, 2, none⟩) (Kd.R_far (p := ⟨w.heap.size, 1, none⟩) (Kd.R_far (p := ⟨w.heap.size, 0, none⟩) HR15.out hne1 (.slice A13 n3.length c13)) hne1 (.int .i64 0)) hne1 (.int .i64 0)) hne1 (.int .u64 e1)) hne1 (.int .u64 e2)) (fun _ _ => trivial)
     ·have cc0 : ¬ (n2.length : Int) ≤ (n1.length : Int) := by omega
      have cc1 : decide ((n2.length : Int) ≤ (n1.length : Int)) = false := decide_eq_false cc0
      go_wp2_with (first
       | (go_at_call 47; (with_reducible refine (reverse_endv k (fun k_ => k_ ≠ w.heap.size ∧ k_ ≠ bF ∧ k_ ≠ bN) q3v A13 c13 n3 v3 j3 w _ HQ3.out (by omega) HB13.out HR13.out HV3.out).mono ?_); rintro e w14 ⟨rfl, hR, hB, hK⟩; have HR14 := Aside0.mk (show Kd.R k52 52 w14 w.heap.size (fun k_ => k_ ≠ w.heap.size ∧ k_ ≠ bF ∧ k_ ≠ bN) (.slice A13 n3.length c13) z3 from by rw [HZ3.out]; exact Kd.R_mono (ok' := (fun k_ => k_ ≠ w.heap.size ∧ k_ ≠ bF ∧ k_ ≠ bN)) hR (fun k_ hk => hk.elim id (fun hk => ⟨by have := blk_lt HKr13.out; omega, by have := blk_lt HKf13.out; omega, by have := blk_lt HKn13.out; omega⟩))); have HKf14 := Aside0.mk ((hK.2 _ (blk_lt HKf13.out) (fun h => h.2.1 rfl)).trans HKf13.out); have HKr14 := Aside0.mk ((hK.2 _ (blk_lt HKr13.out) (fun h => h.1 rfl)).trans HKr13.out); have HB14 := Aside0.mk hB; clear hR hB hK; have gF0 : w14.cell? ⟨bF, 0, none⟩ = some (.int .u64 fl) := (blk_cell HKf14.out 0).trans rfl; have gF1 : w14.cell? ⟨bF, 1, none⟩ = some (.int .u64 fi) := (blk_cell HKf14.out 1).trans rfl)
       | (go_at_call 26; (with_reducible refine (compact_NodeID_Sibling.calls fl fi e1 e2 _ HE.out).mono ?_); rintro e w15 ⟨rfl, hB⟩; have HR15 := Aside0.mk (Kd.R_below HR14.out hB); have HKr15 := Aside0.mk (blk_below HKr14.out hB); have HB15 := Aside0.mk (below_step HB14.out hB); clear hB; have f0 := blk_frozen HKr15.out 0; have f1 := blk_frozen HKr15.out 1; have f2 := blk_frozen HKr15.out 2; have f3 := blk_frozen HKr15.out 3; have f4 := blk_frozen HKr15.out 4; have r0 : w15.cell? ⟨w.heap.size, 0, none⟩ = some (.slice none 0 0) := (blk_cell HKr15.out 0).trans rfl; have r1 : w15.cell? ⟨w.heap.size, 1, none⟩ = some (.int .i64 0) := (blk_cell HKr15.out 1).trans rfl; have r2 : w15.cell? ⟨w.heap.size, 2, none⟩ = some (.int .i64 0) := (blk_cell HKr15.out 2).trans rfl; have r3 : w15.cell? ⟨w.heap.size, 3, none⟩ = some (.int .u64 0) := (blk_cell HKr15.out 3).trans rfl; have r4 : w15.cell? ⟨w.heap.size, 4, none⟩ = some (.int .u64 0) := (blk_cell HKr15.out 4).trans rfl))
      have hne1 : ∀ k_, k_ ≠ w.heap.size ∧ k_ ≠ bF ∧ k_ ≠ bN → k_ ≠ w.heap.size := fun _ h => h.1
      refine bodyPost_ret (results_cell_row rfl _ _ w.heap.size 61 #[(.slice A13 n3.length c13), (.int .i64 (n1.length : Int)), (.int .i64 (n2.length : Int)), (.int .u64 e1), (.int .u64 e2)] (0, 0) _ rfl (blk_put (cs := #[(.slice A13 n3.length c13), (.int .i64 (n1.length : Int)), (.int .i64 (n2.length : Int)), (.int .u64 e1), (.int .u64 0)]) (blk_put (cs := #[(.slice A13 n3.length c13), (.int .i64 (n1.length : Int)), (.int .i64 (n2.length : Int)), (.int .u64 0), (.int .u64 0)]) (blk_put (cs := #[(.slice A13 n3.length c13), (.int .i64 (n1.length : Int)), (.int .i64 0), (.int .u64 0), (.int .u64 0)]) (blk_put (cs := #[(.slice A13 n3.length c13), (.int .i64 0), (.int .i64 0), (.int .u64 0), (.int .u64 0)]) (blk_put (cs := #[(.slice none 0 0), (.int .i64 0), (.int .i64 0), (.int .u64 0), (.int .u64 0)]) HKr15.out 0 _ rfl) 1 _ rfl) 2 _ rfl) 3 _ rfl) 4 _ rfl) Tryd.underlying61 rfl (by kernel_rfl)) rfl ?_
      refine ⟨.slice A13 n3.length c13, ?_, ?_, (below_set (below_set (below_set (below_set (below_set HB15.out (Nat.le_refl _)) (Nat.le_refl _)) (Nat.le_refl _)) (Nat.le_refl _)) (Nat.le_refl _))⟩
      ·first | rfl | rw [if_neg cc, if_neg cc]
      ·first | rw [← HZ3.out] | rw [HJ3.out, Int.toNat_natCast, ← HZ3.out]
       exact Kd.R_mono (Kd.R_far (p := ⟨w.heap.size, 4, none⟩) (Kd.R_far (p := ⟨w.heap.size, 3, none⟩) (Kd.R_far (p := ⟨w.heap.size, 2, none⟩) (Kd.R_far (p := ⟨w.heap.size, 1, none⟩) (Kd.R_far (p := ⟨w.heap.size, 0, none⟩) HR15.out hne1 (.slice A13 n3.length c13)) hne1 (.int .i64 (n1.length : Int))) hne1 (.int .i64 (n2.length : Int))) hne1 (.int .u64 e1)) hne1 (.int .u64 e2)) (fun _ _ => trivial)
def proof_nodes.f (k : Nat) (a0 a1 a2 : Int) : Option (List S52 × Int × Int × Int × Int) :=
 if 0 ≤ a1 ∧ a1 ≤ 63 then (bits_Len64.f (Go.bits .xor .u64 a0 (shr .u64 a2 a1))).bind fun L => if 1 ≤ L ∧ L ≤ 64 then
  (compact_NodeID_Coverage.f (a1 + (L - 1)) (shr .u64 a0 (L - 1))).bind fun c => (compact_RangeSize.f 0 c.1).bind fun lf => (compact_RangeSize.f c.2 a2).bind fun rt => if 0 ≤ lf ∧ lf ≤ 200 ∧ 0 ≤ rt ∧ rt ≤ 200 then
   (sibs k a1 a0 (a1 + (L - 1)) [(⟨a1, a0⟩ : S52)]).bind fun n1 => (compact_RangeNodes.f k c.2 a2 n1).bind fun n2 => if rt ≤ (n2.length : Int) ∧ n2.length ≤ 1099511627776 then
    (proof_reverse.f k (n2.drop ((n2.length : Int) - rt).toNat)).bind fun v2 => if (n2.take ((n2.length : Int) - rt).toNat ++ v2).length = n2.length then (compact_RangeNodes.f k 0 c.1 (n2.take ((n2.length : Int) - rt).toNat ++ v2)).bind fun n3 => if lf ≤ (n3.length : Int) ∧ n3.length ≤ 1099511627776 then
     (proof_reverse.f k (n3.drop ((n3.length : Int) - lf).toNat)).bind fun v3 => if (n3.take ((n3.length : Int) - lf).toNat ++ v3).length = n3.length then (compact_NodeID_Sibling.f (a1 + (L - 1)) (shr .u64 a0 (L - 1))).bind fun e =>
      some (n3.take ((n3.length : Int) - lf).toNat ++ v3, (if n2.length ≤ n1.length then 0 else (n1.length : Int)), (if n2.length ≤ n1.length then 0 else (n2.length : Int)), e.1, e.2)
     else none else none else none else none else none else none else none
theorem sibs.mono : ∀ (k : Nat) (lv ix fl : Int) (acc : List S52), LeO (sibs k lv ix fl acc) (sibs (k + 1) lv ix fl acc)
 | 0, lv, ix, fl, acc => fun r h => by simp [sibs] at h
 | k + 1, lv, ix, fl, acc => by
  rw [sibs, sibs]
  repeat' first
   | exact sibs.mono k _ _ _ _
   | exact LeO.refl _
   | refine LeO.ite ?_ ?_
   | refine LeO.bind ?_ (fun _ => ?_)
theorem proof_nodes.mono : ∀ a0 a1 a2 k, LeO (proof_nodes.f k a0 a1 a2) (proof_nodes.f (k + 1) a0 a1 a2) := by
 intro a0 a1 a2 k
 unfold proof_nodes.f
 repeat' first
  | exact sibs.mono _ _ _ _ _
  | exact compact_RangeNodes.mono _ _ _ _
  | exact proof_reverse.mono _ _
  | exact LeO.refl _
  | refine LeO.ite ?_ ?_
  | refine LeO.bind ?_ (fun _ => ?_)
theorem proof_nodes.calls (k : Nat) (a0 a1 a2 : Int) (r1 : List S52) (r2 r3 r4 r5 : Int) (w : World) (hT : TabOK w) (h : proof_nodes.f k a0 a1 a2 = some (r1, r2, r3, r4, r5)) :
  Calls Tryd.prog 40 #[.int .u64 a0, .int .u64 a1, .int .u64 a2] w fun e w' => ∃ v0_ : Value, e = .returned (.agg #[v0_, .int .i64 r2, .int .i64 r3, .int .u64 r4, .int .u64 r5]) ∧ Kd.R k52 52 w' w.heap.size (fun _ => True) v0_ r1 ∧ Below w.heap.size w w' := by
 unfold proof_nodes.f at h
 by_cases b : 0 ≤ a1 ∧ a1 ≤ 63
 ·rw [if_pos b] at h
  obtain ⟨L, hL, h⟩ := Option.bind_eq_some_iff.mp h
  by_cases i : 1 ≤ L ∧ L ≤ 64
  ·rw [if_pos i] at h
   obtain ⟨⟨c1, c2⟩, hcv, h⟩ := Option.bind_eq_some_iff.mp h
   obtain ⟨lf, hlf, h⟩ := Option.bind_eq_some_iff.mp h
   obtain ⟨rt, hrt, h⟩ := Option.bind_eq_some_iff.mp h
   by_cases l : 0 ≤ lf ∧ lf ≤ 200 ∧ 0 ≤ rt ∧ rt ≤ 200
   ·rw [if_pos l] at h
    obtain ⟨n1, hn1, h⟩ := Option.bind_eq_some_iff.mp h
    obtain ⟨n2, hn2, h⟩ := Option.bind_eq_some_iff.mp h
    by_cases g2 : rt ≤ (n2.length : Int) ∧ n2.length ≤ 1099511627776
    ·rw [if_pos g2] at h
     obtain ⟨v2, hv2, h⟩ := Option.bind_eq_some_iff.mp h
     by_cases y2 : (n2.take ((n2.length : Int) - rt).toNat ++ v2).length = n2.length
     ·rw [if_pos y2] at h
      obtain ⟨n3, hn3, h⟩ := Option.bind_eq_some_iff.mp h
      by_cases g3 : lf ≤ (n3.length : Int) ∧ n3.length ≤ 1099511627776
      ·rw [if_pos g3] at h
       obtain ⟨v3, hv3, h⟩ := Option.bind_eq_some_iff.mp h
       by_cases y3 : (n3.take ((n3.length : Int) - lf).toNat ++ v3).length = n3.length
       ·rw [if_pos y3] at h
        obtain ⟨⟨e1, e2⟩, he, h⟩ := Option.bind_eq_some_iff.mp h
        simp only [Option.some.injEq, Prod.mk.injEq] at h
        obtain ⟨rfl, rfl, rfl, rfl, rfl⟩ := h
        exact nodes_a k a0 a1 a2 w hT _ _ (L - 1) _ _ c1 c2 lf rt b.1 b.2 rfl rfl (by rw [hL]; congr 1; omega) (by omega) (by omega) rfl rfl hcv hlf hrt l.1 l.2.1 l.2.2.1 l.2.2.2 n1 hn1 n2 v2 n3 v3 e1 e2 hn2 g2.1 g2.2 hv2 hn3 g3.1 g3.2 hv3 he y2 y3
       ·rw [if_neg y3] at h; cases h
      ·rw [if_neg g3] at h; cases h
     ·rw [if_neg y2] at h; cases h
    ·rw [if_neg g2] at h; cases h
   ·rw [if_neg l] at h; cases h
  ·rw [if_neg i] at h; cases h
 ·rw [if_neg b] at h; cases h


/-! ### proof_DoorNodes: function 29 -/
def proof_DoorNodes.f (k : Nat) (a0 : Int) (a1 : Int) (a2 : Int) : Option ((List (S52)) × Int × Int × Int × Int) := (proof_nodes.f k a0 a1 a2).bind fun bt154 => (some (bt154.1, bt154.2.1, bt154.2.2.1, bt154.2.2.2.1, bt154.2.2.2.2))
theorem proof_DoorNodes.mono : ∀ a0 a1 a2 k, LeO (proof_DoorNodes.f k a0 a1 a2) (proof_DoorNodes.f (k + 1) a0 a1 a2) := by
 intro a0 a1 a2 k
 unfold proof_DoorNodes.f
 repeat' first
   | (with_reducible exact proof_nodes.mono _ _ _ _)
   | (with_reducible exact LeO.refl _)
   | (with_reducible exact LeO.none _)
   | (with_reducible refine LeO.ite ?_ ?_)
   | (with_reducible refine LeO.bind ?_ (fun _ => ?_))
   | exact proof_nodes.mono _ _ _ _
   | exact LeO.none _
   | refine LeO.ite ?_ ?_
   | refine LeO.bind ?_ (fun _ => ?_)
set_option maxHeartbeats 8000000 in
set_option maxRecDepth 100000 in
theorem proof_DoorNodes.calls (k : Nat) (a0 : Int) (a1 : Int) (a2 : Int) (r1 : List (S52)) (r2 : Int) (r3 : Int) (r4 : Int) (r5 : Int) (w : World) (hT : TabOK w) (h : proof_DoorNodes.f k a0 a1 a2 = some (r1, r2, r3, r4, r5)) :
  Calls Tryd.prog 29 #[.int .u64 a0, .int .u64 a1, .int .u64 a2] w fun e w' => ∃ v0_ : Value, e = .returned (.agg #[v0_, .int .i64 r2, .int .i64 r3, .int .u64 r4, .int .u64 r5]) ∧ Kd.R k52 52 w' w.heap.size (fun _ => True) v0_ r1 ∧ Below w.heap.size w w' := by
 have hu61 := Tryd.underlying61
 have HT := Aside0.mk hT
 clear hT
 have HB := Aside0.mk (Below.refl w.heap.size w)
 have H : ((proof_nodes.f k a0 a1 a2).bind fun bt154 => (some (bt154.1, bt154.2.1, bt154.2.2.1, bt154.2.2.2.1, bt154.2.2.2.2))) = some (r1, r2, r3, r4, r5) := h
 clear h
 replace H := Option.bind_eq_some_iff.mp H
 obtain ⟨⟨t154, t157, t158, t159, t160⟩, A40, H⟩ := H
 replace H : (some (t154, t157, t158, t159, t160)) = some (r1, r2, r3, r4, r5) := H
 have A4 := Aside0.mk A40
 clear A40
 simp only [Option.some.injEq, Prod.mk.injEq] at H
 obtain ⟨rfl, rfl, rfl, rfl, rfl⟩ := H
 go_enter Tryd.func29, Tryd.ntmps29
 go_wp2_with (first | ((with_reducible refine gate_dst (N := 6) rfl ?_); refine box_event ?hg (N := 6) ?hd (cs := #[.slice none 0 0, .int .i64 0, .int .i64 0, .int .u64 0, .int .u64 0]) (t := 61) ?hr ?_; (case hd => rfl); (case hg => rfl); (case hr => first | (go_simp; done) | (go_simp; rfl)); intro gb153 hg w5 hbox hb; have n0_ := Aside0.mk (below_step bB hb); have n1_ := Aside0.mk (hbox); have n2_ := Aside0.mk ((by rw [hg]; exact (below_size bB) : w.heap.size ≤ gb153)); have n3_ := Aside0.mk ((by rw [hg]; exact (below_size bB) : w.heap.size ≤ gb153)); clear HB; have HB := n0_; have BK153 := n1_; have GW153 := n2_; have GE153 := n3_; clear n0_ n1_ n2_ n3_; clear hb hbox hg) | ((with_reducible refine gate_callee (f := 40) rfl ?_); refine goesL_ (some 10) rfl rfl Tryd.func40 (by kernel_rfl) rfl #[.int .u64 a0, .int .u64 a1, .int .u64 a2] rfl aV ?_; (with_reducible refine (proof_nodes.calls k a0 a1 a2 t154 t157 t158 t159 t160 _ ?side1 A4.out).mono ?_); (case side1 => exact TabOK.below HT.out bB); rintro e w6 ⟨v155, rfl, ho0, hb⟩; refine ⟨_, rfl, ?_⟩; have n0_ := Aside0.mk (Kd.R_lower ho0 (below_size bB)); have n1_ := Aside0.mk (blk_below (g := gb153) (o := .cells #[.slice none 0 0, .int .i64 0, .int .i64 0, .int .u64 0, .int .u64 0] 61 (0, 0)) (kB BK153.out) hb); have n2_ := Aside0.mk (below_step bB hb); clear BK153; clear HB; have HO156 := n0_; have BK153 := n1_; have HB := n2_; clear n0_ n1_ n2_; (try clear hb); (try clear hb2); (try clear hk); (try clear hi); (try clear ho0); obtain ⟨Ao7, co7, eo7⟩ := Kd.R_slice HO156.out; subst eo7; have hcz8_0 : w6.cell? ⟨gb153, 0, none⟩ = some (.slice none 0 0) := (blk_cell BK153.out 0).trans rfl; have hcz8_1 : w6.cell? ⟨gb153, 1, none⟩ = some (.int .i64 0) := (blk_cell BK153.out 1).trans rfl; have hcz8_2 : w6.cell? ⟨gb153, 2, none⟩ = some (.int .i64 0) := (blk_cell BK153.out 2).trans rfl; have hcz8_3 : w6.cell? ⟨gb153, 3, none⟩ = some (.int .u64 0) := (blk_cell BK153.out 3).trans rfl; have hcz8_4 : w6.cell? ⟨gb153, 4, none⟩ = some (.int .u64 0) := (blk_cell BK153.out 4).trans rfl; have hfz8_0 := blk_frozen BK153.out 0; have hfz8_1 := blk_frozen BK153.out 1; have hfz8_2 := blk_frozen BK153.out 2; have hfz8_3 := blk_frozen BK153.out 3; have hfz8_4 := blk_frozen BK153.out 4))
 refine bodyPost_ret (results_cell_row rfl _ _ gb153 61 #[.slice Ao7 t154.length co7, .int .i64 t157, .int .i64 t158, .int .u64 t159, .int .u64 t160] (0, 0) _ rfl (by (with_reducible repeat (first | refine blk_drewN ?_ _ | refine blk_drew ?_ | refine blk_alloc ?_ _)); refine blk_put (cs := #[.slice Ao7 t154.length co7, .int .i64 t157, .int .i64 t158, .int .u64 t159, .int .u64 0]) ?_ 4 _ rfl; (with_reducible repeat (first | refine blk_drewN ?_ _ | refine blk_drew ?_ | refine blk_alloc ?_ _)); refine blk_put (cs := #[.slice Ao7 t154.length co7, .int .i64 t157, .int .i64 t158, .int .u64 0, .int .u64 0]) ?_ 3 _ rfl; (with_reducible repeat (first | refine blk_drewN ?_ _ | refine blk_drew ?_ | refine blk_alloc ?_ _)); refine blk_put (cs := #[.slice Ao7 t154.length co7, .int .i64 t157, .int .i64 0, .int .u64 0, .int .u64 0]) ?_ 2 _ rfl; (with_reducible repeat (first | refine blk_drewN ?_ _ | refine blk_drew ?_ | refine blk_alloc ?_ _)); refine blk_put (cs := #[.slice Ao7 t154.length co7, .int .i64 0, .int .i64 0, .int .u64 0, .int .u64 0]) ?_ 1 _ rfl; (with_reducible repeat (first | refine blk_drewN ?_ _ | refine blk_drew ?_ | refine blk_alloc ?_ _)); refine blk_put (cs := #[.slice none 0 0, .int .i64 0, .int .i64 0, .int .u64 0, .int .u64 0]) ?_ 0 _ rfl; (with_reducible repeat (first | refine blk_drewN ?_ _ | refine blk_drew ?_ | refine blk_alloc ?_ _)); exact BK153.out) Tryd.underlying61 rfl (by kernel_rfl)) rfl ?_
 exact ⟨_, by first | rfl | (simp [errW_none, errW_some] <;> rfl) | (simp [*, errW_none, errW_some] <;> rfl), by (with_reducible repeat (first | apply Kd.R_alloc | apply Kd.R_drewN | apply Kd.R_drew)); exact Kd.R_mono (Kd.R_far (p := ⟨gb153, 4, none⟩) (Kd.R_far (p := ⟨gb153, 3, none⟩) (Kd.R_far (p := ⟨gb153, 2, none⟩) (Kd.R_far (p := ⟨gb153, 1, none⟩) (Kd.R_far (p := ⟨gb153, 0, none⟩) (Kd.R_types HO156.out BK153.out (by decide)) (fun _ hk => hk.2) (.slice Ao7 t154.length co7)) (fun _ hk => hk.2) (.int .i64 t157)) (fun _ hk => hk.2) (.int .i64 t158)) (fun _ hk => hk.2) (.int .u64 t159)) (fun _ hk => hk.2) (.int .u64 t160)) (fun _ hk => trivial), bB⟩


/-! ### impl_ProofNodes: function 14 -/
def impl_ProofNodes.j0 : Nat → Int → Int → Int → Bool → Option ((List (S28)) × Int × Int × Int × Int)
 | 0, _, _, _, _ => none
 | k + 1, x0, x1, x2, x15 => if x15 = true then (some (([] : List (S28)), 0, 0, 0, 0)) else ((proof_DoorNodes.f k x0 x1 x2).bind fun bt162 => ((impl_fromProof.f k bt162.1 bt162.2.1 bt162.2.2.1 bt162.2.2.2.1 bt162.2.2.2.2).bind fun bt169 => (some (bt169.1, bt169.2.1, bt169.2.2.1, bt169.2.2.2.1, bt169.2.2.2.2))))
def impl_ProofNodes.f (k : Nat) (a0 : Int) (a1 : Int) (a2 : Int) : Option ((List (S28)) × Int × Int × Int × Int) := if a1 > 63 then (impl_ProofNodes.j0 k a0 a1 a2 true) else (if 0 ≤ a1 then (impl_ProofNodes.j0 k a0 a1 a2 (decide (a0 ≥ (shr .u64 a2 a1)))) else (none))
theorem impl_ProofNodes.mono_l : ∀ k, (∀ y0 y1 y2 y3, LeO (impl_ProofNodes.j0 k y0 y1 y2 y3) (impl_ProofNodes.j0 (k + 1) y0 y1 y2 y3))
 | 0 => fun _ _ _ _ r h => by simp [impl_ProofNodes.j0] at h
 | k + 1 => by
  have ih0 := impl_ProofNodes.mono_l k
  ·intro y0 y1 y2 y3
   unfold impl_ProofNodes.j0
   repeat' first
   | (with_reducible exact ih0 _ _ _ _)
   | (with_reducible exact impl_fromProof.mono _ _ _ _ _ _)
   | (with_reducible exact proof_DoorNodes.mono _ _ _ _)
   | (with_reducible exact LeO.refl _)
   | (with_reducible exact LeO.none _)
   | (with_reducible refine LeO.ite ?_ ?_)
   | (with_reducible refine LeO.bind ?_ (fun _ => ?_))
   | exact ih0 _ _ _ _
   | exact impl_fromProof.mono _ _ _ _ _ _
   | exact proof_DoorNodes.mono _ _ _ _
   | exact LeO.none _
   | refine LeO.ite ?_ ?_
   | refine LeO.bind ?_ (fun _ => ?_)
theorem impl_ProofNodes.mono : ∀ a0 a1 a2 k, LeO (impl_ProofNodes.f k a0 a1 a2) (impl_ProofNodes.f (k + 1) a0 a1 a2) := by
 intro a0 a1 a2 k
 have ih0 := impl_ProofNodes.mono_l k
 unfold impl_ProofNodes.f
 repeat' first
   | (with_reducible exact ih0 _ _ _ _)
   | (with_reducible exact impl_fromProof.mono _ _ _ _ _ _)
   | (with_reducible exact proof_DoorNodes.mono _ _ _ _)
   | (with_reducible exact LeO.refl _)
   | (with_reducible exact LeO.none _)
   | (with_reducible refine LeO.ite ?_ ?_)
   | (with_reducible refine LeO.bind ?_ (fun _ => ?_))
   | exact ih0 _ _ _ _
   | exact impl_fromProof.mono _ _ _ _ _ _
   | exact proof_DoorNodes.mono _ _ _ _
   | exact LeO.none _
   | refine LeO.ite ?_ ?_
   | refine LeO.bind ?_ (fun _ => ?_)
set_option maxHeartbeats 8000000 in
set_option maxRecDepth 100000 in
theorem impl_ProofNodes.calls (k : Nat) (a0 : Int) (a1 : Int) (a2 : Int) (r1 : List (S28)) (r2 : Int) (r3 : Int) (r4 : Int) (r5 : Int) (w : World) (hT : TabOK w) (h : impl_ProofNodes.f k a0 a1 a2 = some (r1, r2, r3, r4, r5)) :
  Calls Tryd.prog 14 #[.int .u64 a0, .int .u64 a1, .int .u64 a2] w fun e w' => ∃ v0_ : Value, e = .returned (.agg #[v0_, .int .u64 r2, .int .u64 r3, .int .i64 r4, .int .i64 r5]) ∧ Kd.R k28 28 w' w.heap.size (fun _ => True) v0_ r1 ∧ Below w.heap.size w w' := by
 have hu39 := Tryd.underlying39
 have HT := Aside0.mk hT
 clear hT
 have HB := Aside0.mk (Below.refl w.heap.size w)
 have H : (if a1 > 63 then (impl_ProofNodes.j0 k a0 a1 a2 true) else (if 0 ≤ a1 then (impl_ProofNodes.j0 k a0 a1 a2 (decide (a0 ≥ (shr .u64 a2 a1)))) else (none))) = some (r1, r2, r3, r4, r5) := h
 clear h
 have HC4 := Aside0.mk H
 clear H
 go_enter Tryd.func14, Tryd.ntmps14
 go_upto_region 1 with (first | ((with_reducible refine gate_dst (N := 6) rfl ?_); refine box_event ?hg (N := 6) ?hd (cs := #[.slice none 0 0, .int .u64 0, .int .u64 0, .int .i64 0, .int .i64 0]) (t := 39) ?hr ?_; (case hd => rfl); (case hg => rfl); (case hr => first | (go_simp; done) | (go_simp; rfl)); intro gb161 hg w5 hbox hb; have n0_ := Aside0.mk (below_step bB hb); have n1_ := Aside0.mk (hbox); have n2_ := Aside0.mk ((by rw [hg]; exact (below_size bB) : w.heap.size ≤ gb161)); have n3_ := Aside0.mk ((by rw [hg]; exact (below_size bB) : w.heap.size ≤ gb161)); clear HB; have HB := n0_; have BK161 := n1_; have GW161 := n2_; have GE161 := n3_; clear n0_ n1_ n2_ n3_; clear hb hbox hg))
 (try simp only [Act.put, List.setIfInBounds_toArray, List.set_cons_zero, List.set_cons_succ])
 go_cut [15] (fun v15 wc => ∃ (kq : Nat) (x15_3 : Bool), v15 = .bool x15_3 ∧ Aside0 (impl_ProofNodes.j0 kq a0 a1 a2 x15_3 = some (r1, r2, r3, r4, r5)) ∧ Aside0 (kq ≤ k) ∧ Aside0 (wc.heap[gb161]? = some (.cells #[(.slice none 0 0), .int .u64 0, .int .u64 0, .int .i64 0, .int .i64 0] 39 (0, 0))) ∧ Aside0 (Below w.heap.size w wc))
 case first =>
  have H := HC4.out
  clear HC4
  by_cases c6 : a1 > 63
  ·rw [if_pos c6] at H
   have c6b0 : decide (63 < a1) = true := decide_eq_true c6
   clear c6
   (first | rw [c6b0] | (simp only [i64_w, i32_w]; rw [c6b0]) | skip)
   have H' := Aside0.mk H
   clear H
   go_wp2
   go_meet
   case rel => exact ⟨_, (true), (by first | rfl | (simp; done) | (simp [*]; done)), H', ⟨by first | omega | exact Nat.le_refl _⟩, ⟨by (with_reducible repeat (first | refine blk_drewN ?_ _ | refine blk_drew ?_ | refine blk_alloc ?_ _)); exact BK161.out⟩, ⟨bB⟩⟩
  ·rw [if_neg c6] at H
   have c6b0 : decide (63 < a1) = false := decide_eq_false c6
   clear c6
   (first | rw [c6b0] | (simp only [i64_w, i32_w]; rw [c6b0]) | skip)
   by_cases c7 : 0 ≤ a1
   ·rw [if_pos c7] at H
    have c7b0 := eq_true c7
    have c7b1 : decide (0 ≤ a1) = true := decide_eq_true c7
    clear c7
    obtain ⟨ji8, hji8⟩ : ∃ j_ : Int, (shr .u64 a2 a1) = j_ := ⟨_, rfl⟩
    replace H : (impl_ProofNodes.j0 k a0 a1 a2 (decide (a0 ≥ (ji8)))) = some (r1, r2, r3, r4, r5) := by first | (rw [hji8] at H; exact H) | (simp only [hji8] at H ⊢; exact H)
    have hji8_ : (a2 / 2 ^ min a1.toNat 64) = ji8 := hji8
    have hji8z : a1 ≤ 64 → (a2 / 2 ^ a1.toNat) = ji8 := shr_small hji8
    have H' := Aside0.mk H
    clear H
    go_wp2
    go_meet
    case rel => exact ⟨_, (decide (a0 ≥ (ji8))), (by first | rfl | (simp; done) | (simp only [← hji8] <;> (first | rfl | simp)) | (simp [*]; done)), H', ⟨by first | omega | exact Nat.le_refl _⟩, ⟨by (with_reducible repeat (first | refine blk_drewN ?_ _ | refine blk_drew ?_ | refine blk_alloc ?_ _)); exact BK161.out⟩, ⟨bB⟩⟩
   ·rw [if_neg c7] at H
    exact absurd H (by simp)
 case rest =>
  clear HC4
  try clear c1
  try clear p2
  try clear c6
  try clear c6b0
  try clear c7
  try clear c7b0
  try clear c7b1
  obtain ⟨kq, x15_3, rfl, HA, HJ3, BK161, HB⟩ := hcut
  cases kq with
  | zero => exact absurd HA.out (by simp [impl_ProofNodes.j0])
  | succ kj3 =>
   have H := HA.out
   clear HA
   simp only [impl_ProofNodes.j0] at H
   by_cases c9 : x15_3 = true
   ·subst c9
    have H1 : (some (([] : List (S28)), 0, 0, 0, 0)) = some (r1, r2, r3, r4, r5) := by rw [if_pos rfl] at H; exact H
    clear H
    have H := H1
    clear H1
    simp only [Option.some.injEq, Prod.mk.injEq] at H
    obtain ⟨rfl, rfl, rfl, rfl, rfl⟩ := H
    have hcz10_0 : wc.cell? ⟨gb161, 0, none⟩ = some (.slice none 0 0) := (blk_cell BK161.out 0).trans rfl
    have hcz10_1 : wc.cell? ⟨gb161, 1, none⟩ = some (.int .u64 0) := (blk_cell BK161.out 1).trans rfl
    have hcz10_2 : wc.cell? ⟨gb161, 2, none⟩ = some (.int .u64 0) := (blk_cell BK161.out 2).trans rfl
    have hcz10_3 : wc.cell? ⟨gb161, 3, none⟩ = some (.int .i64 0) := (blk_cell BK161.out 3).trans rfl
    have hcz10_4 : wc.cell? ⟨gb161, 4, none⟩ = some (.int .i64 0) := (blk_cell BK161.out 4).trans rfl
    have hfz10_0 := blk_frozen BK161.out 0
    have hfz10_1 := blk_frozen BK161.out 1
    have hfz10_2 := blk_frozen BK161.out 2
    have hfz10_3 := blk_frozen BK161.out 3
    have hfz10_4 := blk_frozen BK161.out 4
    go_wp2
    refine bodyPost_ret (results_cell_row rfl _ _ gb161 39 #[.slice none 0 0, .int .u64 0, .int .u64 0, .int .i64 0, .int .i64 0] (0, 0) _ rfl (by (with_reducible repeat (first | refine blk_drewN ?_ _ | refine blk_drew ?_ | refine blk_alloc ?_ _)); refine blk_put (cs := #[.slice none 0 0, .int .u64 0, .int .u64 0, .int .i64 0, .int .i64 0]) ?_ 4 _ rfl; (with_reducible repeat (first | refine blk_drewN ?_ _ | refine blk_drew ?_ | refine blk_alloc ?_ _)); refine blk_put (cs := #[.slice none 0 0, .int .u64 0, .int .u64 0, .int .i64 0, .int .i64 0]) ?_ 3 _ rfl; (with_reducible repeat (first | refine blk_drewN ?_ _ | refine blk_drew ?_ | refine blk_alloc ?_ _)); refine blk_put (cs := #[.slice none 0 0, .int .u64 0, .int .u64 0, .int .i64 0, .int .i64 0]) ?_ 2 _ rfl; (with_reducible repeat (first | refine blk_drewN ?_ _ | refine blk_drew ?_ | refine blk_alloc ?_ _)); refine blk_put (cs := #[.slice none 0 0, .int .u64 0, .int .u64 0, .int .i64 0, .int .i64 0]) ?_ 1 _ rfl; (with_reducible repeat (first | refine blk_drewN ?_ _ | refine blk_drew ?_ | refine blk_alloc ?_ _)); refine blk_put (cs := #[.slice none 0 0, .int .u64 0, .int .u64 0, .int .i64 0, .int .i64 0]) ?_ 0 _ rfl; (with_reducible repeat (first | refine blk_drewN ?_ _ | refine blk_drew ?_ | refine blk_alloc ?_ _)); exact BK161.out) Tryd.underlying39 rfl (by kernel_rfl)) rfl ?_
    exact ⟨(.slice none 0 0), by first | rfl | (simp [errW_none, errW_some] <;> rfl) | (simp [*, errW_none, errW_some] <;> rfl), by first | exact Kd.V_nil _ _ _ _ _ | exact Kd.R_nil _ _ _ _ _ | exact Kd.S_nil _ _ _ _ _ | exact Kd.N_nil _ _ _ _ _ | exact Kd.Q_nil _ _ _ _ _, bB⟩
   ·replace c9 := Bool.eq_false_iff.mpr c9
    subst c9
    have H1 : ((proof_DoorNodes.f kj3 a0 a1 a2).bind fun bt162 => ((impl_fromProof.f kj3 bt162.1 bt162.2.1 bt162.2.2.1 bt162.2.2.2.1 bt162.2.2.2.2).bind fun bt169 => (some (bt169.1, bt169.2.1, bt169.2.2.1, bt169.2.2.2.1, bt169.2.2.2.2)))) = some (r1, r2, r3, r4, r5) := by rw [if_neg (show ¬ (false = true) by decide)] at H; exact H
    clear H
    have H := H1
    clear H1
    replace H := Option.bind_eq_some_iff.mp H
    obtain ⟨⟨t162, t165, t166, t167, t168⟩, A110, H⟩ := H
    replace H : ((impl_fromProof.f kj3 t162 t165 t166 t167 t168).bind fun bt169 => (some (bt169.1, bt169.2.1, bt169.2.2.1, bt169.2.2.2.1, bt169.2.2.2.2))) = some (r1, r2, r3, r4, r5) := H
    have A11 := Aside0.mk A110
    clear A110
    replace H := Option.bind_eq_some_iff.mp H
    obtain ⟨⟨t169, t172, t173, t174, t175⟩, A120, H⟩ := H
    replace H : (some (t169, t172, t173, t174, t175)) = some (r1, r2, r3, r4, r5) := H
    have A12 := Aside0.mk A120
    clear A120
    simp only [Option.some.injEq, Prod.mk.injEq] at H
    obtain ⟨rfl, rfl, rfl, rfl, rfl⟩ := H
    go_wp2_with (first | ((with_reducible refine gate_callee (f := 29) rfl ?_); refine goesL_ (some 20) rfl rfl Tryd.func29 (by kernel_rfl) rfl #[.int .u64 a0, .int .u64 a1, .int .u64 a2] rfl aV ?_; (with_reducible refine (proof_DoorNodes.calls kj3 a0 a1 a2 t162 t165 t166 t167 t168 _ ?side1 A11.out).mono ?_); (case side1 => exact TabOK.below HT.out bB); rintro e w13 ⟨v163, rfl, ho0, hb⟩; refine ⟨_, rfl, ?_⟩; have n0_ := Aside0.mk (Kd.R_lower ho0 (below_size bB)); have n1_ := Aside0.mk (blk_below (g := gb161) (o := .cells #[.slice none 0 0, .int .u64 0, .int .u64 0, .int .i64 0, .int .i64 0] 39 (0, 0)) (kB BK161.out) hb); have n2_ := Aside0.mk (below_step bB hb); clear BK161; clear HB; have HO164 := n0_; have BK161 := n1_; have HB := n2_; clear n0_ n1_ n2_; (try clear hb); (try clear hb2); (try clear hk); (try clear hi); (try clear ho0); obtain ⟨Ao14, co14, eo14⟩ := Kd.R_slice HO164.out; subst eo14) | ((with_reducible refine gate_callee (f := 28) rfl ?_); refine goesL_ (some 21) rfl rfl Tryd.func28 (by kernel_rfl) rfl #[.agg #[.slice Ao14 t162.length co14, .int .i64 t165, .int .i64 t166, .int .u64 t167, .int .u64 t168]] rfl aV ?_; (with_reducible refine (impl_fromProof.calls kj3 _ _ t162 t165 t166 t167 t168 t169 t172 t173 t174 t175 _ ?side1 ?side2 A12.out).mono ?_); (case side1 => repeat (first | exact (Kd.R_reads' HO164.out).2.2 | (with_reducible refine Kd.C_alloc ?_ _) | (with_reducible refine Kd.C_drewN ?_ _) | (with_reducible refine Kd.C_drew ?_))); (case side2 => exact (Kd.R_reads' HO164.out).2.1); rintro e w15 ⟨v170, rfl, ho0, hb⟩; refine ⟨_, rfl, ?_⟩; have n0_ := Aside0.mk (Kd.R_below (kR HO164.out) hb); have n1_ := Aside0.mk (Kd.R_lower ho0 (below_size bB)); have n2_ := Aside0.mk (blk_below (g := gb161) (o := .cells #[.slice none 0 0, .int .u64 0, .int .u64 0, .int .i64 0, .int .i64 0] 39 (0, 0)) (kB BK161.out) hb); have n3_ := Aside0.mk (below_step bB hb); clear HO164; clear BK161; clear HB; have HO164 := n0_; have HO171 := n1_; have BK161 := n2_; have HB := n3_; clear n0_ n1_ n2_ n3_; (try clear hb); (try clear hb2); (try clear hk); (try clear hi); (try clear ho0); obtain ⟨Ao16, co16, eo16⟩ := Kd.R_slice HO171.out; subst eo16; have hcz17_0 : w15.cell? ⟨gb161, 0, none⟩ = some (.slice none 0 0) := (blk_cell BK161.out 0).trans rfl; have hcz17_1 : w15.cell? ⟨gb161, 1, none⟩ = some (.int .u64 0) := (blk_cell BK161.out 1).trans rfl; have hcz17_2 : w15.cell? ⟨gb161, 2, none⟩ = some (.int .u64 0) := (blk_cell BK161.out 2).trans rfl; have hcz17_3 : w15.cell? ⟨gb161, 3, none⟩ = some (.int .i64 0) := (blk_cell BK161.out 3).trans rfl; have hcz17_4 : w15.cell? ⟨gb161, 4, none⟩ = some (.int .i64 0) := (blk_cell BK161.out 4).trans rfl; have hfz17_0 := blk_frozen BK161.out 0; have hfz17_1 := blk_frozen BK161.out 1; have hfz17_2 := blk_frozen BK161.out 2; have hfz17_3 := blk_frozen BK161.out 3; have hfz17_4 := blk_frozen BK161.out 4))
    refine bodyPost_ret (results_cell_row rfl _ _ gb161 39 #[.slice Ao16 t169.length co16, .int .u64 t172, .int .u64 t173, .int .i64 t174, .int .i64 t175] (0, 0) _ rfl (by (with_reducible repeat (first | refine blk_drewN ?_ _ | refine blk_drew ?_ | refine blk_alloc ?_ _)); refine blk_put (cs := #[.slice Ao16 t169.length co16, .int .u64 t172, .int .u64 t173, .int .i64 t174, .int .i64 0]) ?_ 4 _ rfl; (with_reducible repeat (first | refine blk_drewN ?_ _ | refine blk_drew ?_ | refine blk_alloc ?_ _)); refine blk_put (cs := #[.slice Ao16 t169.length co16, .int .u64 t172, .int .u64 t173, .int .i64 0, .int .i64 0]) ?_ 3 _ rfl; (with_reducible repeat (first | refine blk_drewN ?_ _ | refine blk_drew ?_ | refine blk_alloc ?_ _)); refine blk_put (cs := #[.slice Ao16 t169.length co16, .int .u64 t172, .int .u64 0, .int .i64 0, .int .i64 0]) ?_ 2 _ rfl; (with_reducible repeat (first | refine blk_drewN ?_ _ | refine blk_drew ?_ | refine blk_alloc ?_ _)); refine blk_put (cs := #[.slice Ao16 t169.length co16, .int .u64 0, .int .u64 0, .int .i64 0, .int .i64 0]) ?_ 1 _ rfl; (with_reducible repeat (first | refine blk_drewN ?_ _ | refine blk_drew ?_ | refine blk_alloc ?_ _)); refine blk_put (cs := #[.slice none 0 0, .int .u64 0, .int .u64 0, .int .i64 0, .int .i64 0]) ?_ 0 _ rfl; (with_reducible repeat (first | refine blk_drewN ?_ _ | refine blk_drew ?_ | refine blk_alloc ?_ _)); exact BK161.out) Tryd.underlying39 rfl (by kernel_rfl)) rfl ?_
    exact ⟨_, by first | rfl | (simp [errW_none, errW_some] <;> rfl) | (simp [*, errW_none, errW_some] <;> rfl), by (with_reducible repeat (first | apply Kd.R_alloc | apply Kd.R_drewN | apply Kd.R_drew)); exact Kd.R_mono (Kd.R_far (p := ⟨gb161, 4, none⟩) (Kd.R_far (p := ⟨gb161, 3, none⟩) (Kd.R_far (p := ⟨gb161, 2, none⟩) (Kd.R_far (p := ⟨gb161, 1, none⟩) (Kd.R_far (p := ⟨gb161, 0, none⟩) (Kd.R_types HO171.out BK161.out (by decide)) (fun _ hk => hk.2) (.slice Ao16 t169.length co16)) (fun _ hk => hk.2) (.int .u64 t172)) (fun _ hk => hk.2) (.int .u64 t173)) (fun _ hk => hk.2) (.int .i64 t174)) (fun _ hk => hk.2) (.int .i64 t175)) (fun _ hk => trivial), bB⟩


attribute [local go_sem high] eqA28
/-! ### spec_SameNodes: function 9 -/
def spec_SameNodes.l0 : Nat → List (S28) → List (S28) → Int → Int → Option (Bool)
 | 0, _, _, _, _ => none
 | k + 1, x0, x1, x12, x13 => if x13 < x12 then (if 0 ≤ x13 then (if x13 < (x0.length : Int) then (if x13 < (x1.length : Int) then (if (!(((rd_T28 x0 x13).f0) == ((rd_T28 x1 x13).f0)) || (!(((rd_T28 x0 x13).f1) == ((rd_T28 x1 x13).f1)))) = true then (some false) else (spec_SameNodes.l0 k x0 x1 x12 (wrap64 (x13 + 1)))) else (none)) else (none)) else (none)) else (some true)
def spec_SameNodes.f (k : Nat) (l0 : List (S28)) (l1 : List (S28)) : Option (Bool) := if (l0.length : Int) = (l1.length : Int) then (spec_SameNodes.l0 k l0 l1 (l0.length : Int) 0) else (some false)
theorem spec_SameNodes.mono_l : ∀ k, (∀ y0 y1 y2 y3, LeO (spec_SameNodes.l0 k y0 y1 y2 y3) (spec_SameNodes.l0 (k + 1) y0 y1 y2 y3))
 | 0 => fun _ _ _ _ r h => by simp [spec_SameNodes.l0] at h
 | k + 1 => by
  have ih0 := spec_SameNodes.mono_l k
  ·intro y0 y1 y2 y3
   unfold spec_SameNodes.l0
   repeat' first
   | (with_reducible exact ih0 _ _ _ _)
   | (with_reducible exact LeO.refl _)
   | (with_reducible exact LeO.none _)
   | (with_reducible refine LeO.ite ?_ ?_)
   | (with_reducible refine LeO.bind ?_ (fun _ => ?_))
   | exact ih0 _ _ _ _
   | exact LeO.none _
   | refine LeO.ite ?_ ?_
   | refine LeO.bind ?_ (fun _ => ?_)
theorem spec_SameNodes.mono : ∀ a0 a1 k, LeO (spec_SameNodes.f k a0 a1) (spec_SameNodes.f (k + 1) a0 a1) := by
 intro a0 a1 k
 have ih0 := spec_SameNodes.mono_l k
 unfold spec_SameNodes.f
 repeat' first
   | (with_reducible exact ih0 _ _ _ _)
   | (with_reducible exact LeO.refl _)
   | (with_reducible exact LeO.none _)
   | (with_reducible refine LeO.ite ?_ ?_)
   | (with_reducible refine LeO.bind ?_ (fun _ => ?_))
   | exact ih0 _ _ _ _
   | exact LeO.none _
   | refine LeO.ite ?_ ?_
   | refine LeO.bind ?_ (fun _ => ?_)
set_option maxHeartbeats 8000000 in
set_option maxRecDepth 100000 in
theorem spec_SameNodes.calls (k : Nat) (A0 : Option Addr) (c0 : Nat) (l0 : List (S28)) (A1 : Option Addr) (c1 : Nat) (l1 : List (S28)) (r : Bool) (w : World) (hr0 : Kd.C k28 w A0 l0.length l0) (hc0 : l0.length ≤ c0) (hr1 : Kd.C k28 w A1 l1.length l1) (hc1 : l1.length ≤ c1) (h : spec_SameNodes.f k l0 l1 = some r) :
  Calls Tryd.prog 9 #[.slice A0 l0.length c0, .slice A1 l1.length c1] w fun e w' => e = .returned (.bool r) ∧ Drawn0 w w' := by
 have hu28 := Tryd.underlying28
 have HR0 := Aside0.mk hr0
 have HC0 := Aside0.mk hc0
 clear hr0 hc0
 have HR1 := Aside0.mk hr1
 have HC1 := Aside0.mk hc1
 clear hr1 hc1
 have H : (if (l0.length : Int) = (l1.length : Int) then (spec_SameNodes.l0 k l0 l1 (l0.length : Int) 0) else (some false)) = some r := h
 clear h
 by_cases c3 : (l0.length : Int) = (l1.length : Int)
 ·rw [if_pos c3] at H
  have c3b0 : ((l0.length : Int) == (l1.length : Int)) = true := beq_iff_eq.mpr c3
  have c3b1 : ((l0.length : Int) != (l1.length : Int)) = false := bne_eq_false_iff_eq.mpr c3
  have c3b2 : (l0.length == l1.length) = true := by first | simpa using c3 | (simp at c3 ⊢; omega)
  clear c3
  have H' := Aside0.mk H
  clear H
  go_enter Tryd.func9, Tryd.ntmps9
  go_wp2
  repeat (go_quiet (fail); try go_wp2)
  go_loopg [13] k (fun kq v13 w' => ∃ (x13_1 : Int), v13 = .int .i64 x13_1 ∧ Aside0 (spec_SameNodes.l0 kq l0 l1 (l0.length : Int) x13_1 = some r) ∧ Aside0 (kq ≤ k) ∧ Drawn0 w w')
  case atStart => exact ⟨(0), (by first | rfl | (simp; done) | (simp [*]; done)), H', ⟨Nat.le_refl _⟩, by repeat (first | exact Drawn0.refl _ | apply Drawn0.step)⟩
  case round =>
   clear H'
   try clear c1
   try clear p2
   try clear c3
   try clear c3b0
   try clear c3b1
   try clear c3b2
   obtain ⟨x13_1, rfl, HA, HK1, ⟨m1, rfl⟩⟩ := hrel
   cases gk with
   | zero => exact absurd HA.out (by simp [spec_SameNodes.l0])
   | succ k1 =>
    have H := HA.out
    clear HA
    simp only [spec_SameNodes.l0] at H
    by_cases c4 : x13_1 < (l0.length : Int)
    ·rw [if_pos c4] at H
     have c4b0 : decide (x13_1 < (l0.length : Int)) = true := decide_eq_true c4
     clear c4
     by_cases c5 : 0 ≤ x13_1
     ·rw [if_pos c5] at H
      have c5b0 : decide (0 ≤ x13_1) = true := decide_eq_true c5
      clear c5
      by_cases c6 : x13_1 < (l0.length : Int)
      ·rw [if_pos c6] at H
       have c6b0 : decide (x13_1 < (l0.length : Int)) = true := decide_eq_true c6
       clear c6
       by_cases c7 : x13_1 < (l1.length : Int)
       ·rw [if_pos c7] at H
        have c7b0 : decide (x13_1 < (l1.length : Int)) = true := decide_eq_true c7
        clear c7
        by_cases c8 : (!(((rd_T28 l0 x13_1).f0) == ((rd_T28 l1 x13_1).f0)) || (!(((rd_T28 l0 x13_1).f1) == ((rd_T28 l1 x13_1).f1)))) = true
        ·rw [if_pos c8] at H
         have c8b0 : (!(((rd_T28 l0 x13_1).f0) == ((rd_T28 l1 x13_1).f0)) || (!(((rd_T28 l0 x13_1).f1) == ((rd_T28 l1 x13_1).f1)))) = true := c8
         clear c8
         obtain rfl := Option.some.inj H
         have p176 : 0 ≤ (x13_1 : Int) := dA
         have q176 : x13_1 < (l0.length : Int) := dA
         obtain ⟨ad176, e176, hx176_0, hx176_1⟩ := at_T28 HR0.out x13_1 p176 q176
         cases e176
         replace p176 := eq_true p176
         replace q176 := eq_true q176
         have p177 : 0 ≤ (x13_1 : Int) := dA
         have q177 : x13_1 < (l1.length : Int) := dA
         obtain ⟨ad177, e177, hx177_0, hx177_1⟩ := at_T28 HR1.out x13_1 p177 q177
         cases e177
         replace p177 := eq_true p177
         replace q177 := eq_true q177
         go_wp2
         repeat (go_quiet (fail); try go_wp2)
         go_ret
         exact ⟨by first | rfl | (simp; done) | (simp [*]; done), by repeat (first | exact Drawn0.refl _ | apply Drawn0.step)⟩
        ·rw [if_neg c8] at H
         have c8b0 : (!(((rd_T28 l0 x13_1).f0) == ((rd_T28 l1 x13_1).f0)) || (!(((rd_T28 l0 x13_1).f1) == ((rd_T28 l1 x13_1).f1)))) = false := by simpa using c8
         clear c8
         have H' := Aside0.mk H
         clear H
         have p176 : 0 ≤ (x13_1 : Int) := dA
         have q176 : x13_1 < (l0.length : Int) := dA
         obtain ⟨ad176, e176, hx176_0, hx176_1⟩ := at_T28 HR0.out x13_1 p176 q176
         cases e176
         replace p176 := eq_true p176
         replace q176 := eq_true q176
         have p177 : 0 ≤ (x13_1 : Int) := dA
         have q177 : x13_1 < (l1.length : Int) := dA
         obtain ⟨ad177, e177, hx177_0, hx177_1⟩ := at_T28 HR1.out x13_1 p177 q177
         cases e177
         replace p177 := eq_true p177
         replace q177 := eq_true q177
         go_wp2
         repeat (go_quiet (fail); try go_wp2)
         go_roundg k1
         case measure => have := HK1.out; omega
         case rel => exact ⟨(wrap64 (x13_1 + 1)), (by first | rfl | (simp; done) | (simp [*]; done)), H', ⟨by have := HK1.out; omega⟩, by repeat (first | exact Drawn0.refl _ | apply Drawn0.step)⟩
       ·rw [if_neg c7] at H
        exact absurd H (by simp)
      ·rw [if_neg c6] at H
       exact absurd H (by simp)
     ·rw [if_neg c5] at H
      exact absurd H (by simp)
    ·rw [if_neg c4] at H
     have c4b0 : decide (x13_1 < (l0.length : Int)) = false := decide_eq_false c4
     clear c4
     obtain rfl := Option.some.inj H
     go_wp2
     repeat (go_quiet (fail); try go_wp2)
     go_ret
     exact ⟨by first | rfl | (simp; done) | (simp [*]; done), by repeat (first | exact Drawn0.refl _ | apply Drawn0.step)⟩
 ·rw [if_neg c3] at H
  have c3b0 : ((l0.length : Int) == (l1.length : Int)) = false := beq_eq_false_iff_ne.mpr c3
  have c3b1 : ((l0.length : Int) != (l1.length : Int)) = true := bne_iff_ne.mpr c3
  have c3b2 : (l0.length == l1.length) = false := by first | simpa using c3 | (simp at c3 ⊢; omega)
  obtain rfl := Option.some.inj H
  go_enter Tryd.func9, Tryd.ntmps9
  go_wp2
  repeat (go_quiet (fail); try go_wp2)
  go_ret
  exact ⟨by first | rfl | (simp; done) | (simp [*]; done), by repeat (first | exact Drawn0.refl _ | apply Drawn0.step)⟩

end Go.Proofs.YtkkkaegocinkeaaDoor.M

