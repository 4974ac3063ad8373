import Derived.Test.YtkmdkmlgahfcpaaDoorSr
import Derived.Test.YtkmdkmlgahfcpaaDoorMm1
import Derived.Test.YtkmdkmlgahfcpaaDoorMm2
namespace Go.Proofs.YtkmdkmlgahfcpaaDoor.M
open Go.RowKit Go.Proofs.YtkmdkmlgahfcpaaDoorW.PrintWords Go.Proofs.YtkmdkmlgahfcpaaDoorW.PrintLast Go.Proofs.YtkmdkmlgahfcpaaDoorW.PrintMore
attribute [local go_sem] max2_int min2_int max_two min_two max_three min_three max_four min_four
set_option linter.unusedVariables false
set_option linter.unusedSimpArgs false
def sibs : Nat → Int → Int → Int → List S106 → Option (List S106)
 | 0, _, _, _, _ => none
 | k + 1, lv, ix, fl, acc => if lv < fl then (if acc.length < 1099511627776 then (compact_NodeID_Sibling.f lv ix).bind fun s => (compact_NodeID_Parent.f lv ix).bind fun p => sibs k p.1 p.2 fl (acc ++ [(⟨s.1, s.2⟩ : S106)]) else none) else some acc
set_option maxRecDepth 100000 in
theorem reverse_end (k : Nat) (P0_ : Nat → Prop) (A : Option Addr) (cap : Nat) (xs rv : List S106) (j : Nat) (w0 w : World) (hj : j ≤ xs.length) (hB : Below w0.heap.size w0 w) (ho0 : Kd.R k106 106 w w0.heap.size P0_ (.slice A xs.length cap) xs) (h : proof_reverse.f k (xs.drop j) = some rv) :
  Calls Tryd.prog 117 #[.slice (if cap = j then A else A.map (·.add (j * 2))) (xs.length - j) (cap - j)] w fun e w' => e = .returned (.tuple #[]) ∧ Kd.R k106 106 w' w0.heap.size (fun k_ => (P0_ k_ ∨ w.heap.size ≤ k_)) (.slice A xs.length cap) (xs.take j ++ rv) ∧ Below w0.heap.size w0 w' ∧ Kept w w' (fun k_ => P0_ k_) := by
 by_cases hz : xs.length - j = 0
 ·rw [hz]
  refine (reverse_nil _ _ w).mono fun e w' ⟨he, hw⟩ => ?_
  subst hw
  have e0 : xs.drop j = [] := List.drop_of_length_le (by omega)
  rw [e0] at h
  have hrv : rv = [] := by
   unfold proof_reverse.f at h
   cases k with
   | zero => simp [proof_reverse.l0] at h
   | succ k => simp [proof_reverse.l0, wrap64] at h; exact h
  subst hrv
  rw [List.take_of_length_le (by omega), List.append_nil]
  exact ⟨he, Kd.R_mono ho0 (fun _ h => .inl h), hB, Kept.refl _ _⟩
 ·have hcap := (Kd.R_reads' ho0).2.1
  rw [if_neg (by omega)]
  cases A with
  | none =>
   exfalso
   obtain ⟨_, inner, ho, _⟩ := ho0
   rcases ho.2 with ⟨_, h0⟩ | ⟨g', cap', cur, hv', _⟩
   ·omega
   ·cases hv'
  | some ad =>
   obtain ⟨g, rfl⟩ := Kd.R_head ho0
   have hl : (xs.take j).length = j := by rw [List.length_take]; omega
   have hd : (xs.drop j).length = xs.length - j := List.length_drop
   have ha : xs.take j ++ xs.drop j = xs := List.take_append_drop j xs
   have := reverse_cut k P0_ g (j * 2) cap (cap - j) (xs.take j) (xs.drop j) rv w0 w hB (by rw [hl]) (by rw [ha]; exact ho0) h
   rw [ha, hd] at this
   have e : (some (⟨g, 0, none⟩ : Addr)).map (·.add (j * 2)) = some ⟨g, j * 2, none⟩ := by rw [Option.map_some, add_at, Nat.zero_add]
   rw [e]
   exact this
theorem reverse_endv (k : Nat) (P0_ : Nat → Prop) (v : Value) (A : Option Addr) (cap : Nat) (xs rv : List S106) (j : Nat) (w0 w : World) (hv : v = .slice (if cap = j then A else A.map (·.add (j * 2))) (xs.length - j) (cap - j)) (hj : j ≤ xs.length) (hB : Below w0.heap.size w0 w) (ho0 : Kd.R k106 106 w w0.heap.size P0_ (.slice A xs.length cap) xs) (h : proof_reverse.f k (xs.drop j) = some rv) :
  Calls Tryd.prog 117 #[v] w fun e w' => e = .returned (.tuple #[]) ∧ Kd.R k106 106 w' w0.heap.size (fun k_ => (P0_ k_ ∨ w.heap.size ≤ k_)) (.slice A xs.length cap) (xs.take j ++ rv) ∧ Below w0.heap.size w0 w' ∧ Kept w w' (fun k_ => P0_ k_) := by
 subst hv
 exact reverse_end k P0_ A cap xs rv j w0 w hj hB ho0 h
theorem nd_cut (A : Option Addr) (c n j : Nat) (hj : j ≤ n) : ∃ v : Value, v = .slice (if c = j then A else A.map (·.add (j * 2))) (n - j) (c - j) ∧ ∀ W, (Instr.slice 120 (.slice A n c) (some (.int .i64 (j : Int))) none none).run Tryd.prog W = .ok v W := by
 obtain ⟨i0, hi, _, hsz, _⟩ := info_parts info106
 refine ⟨_, rfl, fun W => ?_⟩
 have h := cut_from (P := Tryd.prog) 120 106 .i64 Tryd.underlying120 hi 2 hsz A n c (j : Int) (by omega) (by omega) W
 rw [Int.toNat_natCast] at h
 exact h
set_option maxRecDepth 100000 in
theorem nd_made (P : Nat → Prop) (W : World) (B : Nat) (M : Array Value) (c : Nat) (hM : M.size = c * 2) (hb : B ≤ W.heap.size) (hc : c ≤ maxLen) (hP : P W.heap.size) :
  Kd.R k106 106 (W.alloc (.cells M 106)) B P (.slice (some ⟨W.heap.size, 0, none⟩) 0 c) [] := by
 refine ⟨fun k hk => ?_, [], World.ownsRow_made W M c hb hc hM, ?_⟩
 ·have : W.heap.size = k := by simpa [Value.ownBlock] using hk
  rw [← this]; exact hP
 ·exact ⟨rfl, fun j p hj => by simp at hj⟩
theorem nd_size (W : World) (o : Obj) : (W.alloc o).heap.size = W.heap.size + 1 := by simp
set_option maxRecDepth 100000 in
theorem nd_lit (W : World) (b : Nat) (x y : Int) (h : W.heap[b]? = some (.cells #[.int .u64 x, .int .u64 y] 106 (0, 0))) : Kd.C k106 W (some ⟨b, 0, none⟩) 1 [(⟨x, y⟩ : S106)] := by
 refine ⟨rfl, by decide, fun _ => ⟨_, rfl, fun j p hj => ?_⟩⟩
 match j, hj with
 | 0, hj =>
  injection hj with hj
  subst hj
  refine ⟨[.int .u64 x, .int .u64 y], rfl, ⟨[.int .u64 x], [.int .u64 y], rfl, rfl, rfl⟩, fun i u hu => ?_⟩
  ·match i, hu with
   | 0, hu => injection hu with hu; subst hu; exact (blk_cell h 0).trans rfl
   | 1, hu => injection hu with hu; subst hu; exact (blk_cell h 1).trans rfl
set_option maxHeartbeats 8000000 in
set_option maxRecDepth 100000 in
theorem nodes_a (k : Nat) (a0 a1 a2 : Int) (w : World) (hT : TabOK w) (s1 x1 inn fl fi c1 c2 lf rt : Int) (b0 : 0 ≤ a1) (b1 : a1 ≤ 63) (hs1 : shr .u64 a2 a1 = s1) (hx1 : Go.bits .xor .u64 a0 s1 = x1) (hL : bits_Len64.f x1 = some (inn + 1)) (i0 : 0 ≤ inn) (i1 : inn ≤ 63)
  (hfl : a1 + inn = fl) (hfi : shr .u64 a0 inn = fi) (hcv : compact_NodeID_Coverage.f fl fi = some (c1, c2)) (hlf : compact_RangeSize.f 0 c1 = some lf) (hrt : compact_RangeSize.f c2 a2 = some rt) (l0 : 0 ≤ lf) (l1 : lf ≤ 200) (r0 : 0 ≤ rt) (r1 : rt ≤ 200) (n1 : List S106) (hn1 : sibs k a1 a0 fl [(⟨a1, a0⟩ : S106)] = some n1)
  (n2 v2 n3 v3 : List S106) (e1 e2 : Int) (hn2 : compact_RangeNodes.f k c2 a2 n1 = some n2) (g2 : rt ≤ (n2.length : Int)) (q2 : n2.length ≤ 1099511627776) (hv2 : proof_reverse.f k (n2.drop ((n2.length : Int) - rt).toNat) = some v2) (hn3 : compact_RangeNodes.f k 0 c1 (n2.take ((n2.length : Int) - rt).toNat ++ v2) = some n3) (g3 : lf ≤ (n3.length : Int)) (q3 : n3.length ≤ 1099511627776) (hv3 : proof_reverse.f k (n3.drop ((n3.length : Int) - lf).toNat) = some v3) (he : compact_NodeID_Sibling.f fl fi = some (e1, e2)) (hl2 : (n2.take ((n2.length : Int) - rt).toNat ++ v2).length = n2.length) (hl3 : (n3.take ((n3.length : Int) - lf).toNat ++ v3).length = n3.length) :
  Calls Tryd.prog 102 #[.int .u64 a0, .int .u64 a1, .int .u64 a2] w fun e w' => ∃ v0_ : Value, e = .returned (.agg #[v0_, .int .i64 (if n2.length ≤ n1.length then 0 else (n1.length : Int)), .int .i64 (if n2.length ≤ n1.length then 0 else (n2.length : Int)), .int .u64 e1, .int .u64 e2]) ∧ Kd.R k106 106 w' w.heap.size (fun _ => True) v0_ (n3.take ((n3.length : Int) - lf).toNat ++ v3) ∧ Below w.heap.size w w' := by
 have hu := Tryd.underlying122
 have hu2 := Tryd.underlying106
 have hs1z : a2 / 2 ^ a1.toNat = s1 := shr_small hs1 (by show a1 ≤ 64; omega)
 have hfiz : a0 / 2 ^ inn.toNat = fi := shr_small hfi (by show inn ≤ 64; omega)
 have HT := zM hT
 have HLn := zM hL
 have HCV := zM hcv
 have HLF := zM hlf
 have HRT := zM hrt
 clear hT hL hcv hlf hrt
 go_enter Tryd.func102, Tryd.ntmps102
 go_upto_region 7 with (first
  | (go_at_call 109; (with_reducible refine (bits_Len64.calls x1 (inn + 1) _ HLn.out).mono ?_); rintro e w1 ⟨rfl, ⟨nd, rfl⟩⟩; have kR := blk_drewN (blk_new w (Obj.cells #[.slice none 0 0, .int .i64 0, .int .i64 0, .int .u64 0, .int .u64 0] 122)) nd; have hB0 := pw_below_drewN (below_alloc (Below.refl w.heap.size w) (Obj.cells #[.slice none 0 0, .int .i64 0, .int .i64 0, .int .u64 0, .int .u64 0] 122)) nd; generalize World.drewN (World.alloc w _) nd = W1 at kR hB0 ⊢)
  | (go_at_call 92; (with_reducible refine (compact_NewNodeID.calls fl fi fl fi _ rfl).mono ?_); rintro e w2 ⟨rfl, hB⟩; replace kR := blk_below kR hB; replace hB0 := below_step hB0 hB; clear hB)
  | (go_at_call 92; (with_reducible refine (compact_NewNodeID.calls a1 a0 a1 a0 _ rfl).mono ?_); rintro e w6 ⟨rfl, hB⟩; replace kR := blk_below kR hB; replace kF := blk_below kF hB; replace hB0 := below_step hB0 hB; clear hB)
  | (go_at_call 115; (with_reducible refine (compact_NodeID_Coverage.calls fl fi c1 c2 _ HCV.out).mono ?_); rintro e w3 ⟨rfl, hB⟩; have kF := blk_below (blk_new w2 (Obj.cells #[.int .u64 fl, .int .u64 fi] 106)) hB; have nFR := blk_lt kR; replace kR := blk_below (blk_alloc kR _) hB; replace hB0 := below_step (below_alloc hB0 _) hB; clear hB; generalize w2.heap.size = bF at kF nFR ⊢)
  | (go_at_call 91; (with_reducible refine (compact_RangeSize.calls 0 c1 lf _ HLF.out).mono ?_); rintro e w' ⟨rfl, ⟨nd, rfl⟩⟩; replace kR := blk_drewN kR nd; replace kF := blk_drewN kF nd; replace hB0 := pw_below_drewN hB0 nd; generalize World.drewN w3 nd = w4 at kR kF hB0 ⊢)
  | (go_at_call 91; (with_reducible refine (compact_RangeSize.calls c2 a2 rt _ HRT.out).mono ?_); rintro e w' ⟨rfl, ⟨nd, rfl⟩⟩; replace kR := blk_drewN kR nd; replace kF := blk_drewN kF nd; replace hB0 := pw_below_drewN hB0 nd; generalize World.drewN w4 nd = w5 at kR kF hB0 ⊢))
 have kN := blk_new w6 (Obj.cells #[.int .u64 a1, .int .u64 a0] 106)
 have nNF := blk_lt kF
 replace kF := blk_alloc kF (Obj.cells #[.int .u64 a1, .int .u64 a0] 106)
 replace kR := blk_alloc kR (Obj.cells #[.int .u64 a1, .int .u64 a0] 106)
 replace hB0 := below_alloc hB0 (Obj.cells #[.int .u64 a1, .int .u64 a0] 106)
 generalize w6.heap.size = bN at kN nNF ⊢
 generalize World.alloc w6 _ = w7 at kN kF kR hB0 ⊢
 have HKR := zM kR
 have HKF := zM kF
 have HKN := zM kN
 have HB0 := zM hB0
 have nNl := blk_lt kN
 clear kR kF hB0
 obtain ⟨cp, hcp⟩ : ∃ cp, 1 + inn + rt + lf = cp := ⟨_, rfl⟩
 go_cut [14] from 45 to 54 (fun v14 wc => Aside0 (Kd.R k106 106 wc w.heap.size (fun k_ => w7.heap.size ≤ k_) v14 [(⟨a1, a0⟩ : S106)]) ∧ Aside0 (Below w7.heap.size w7 wc))
 case first =>
  have ecN0 : w7.cell? ⟨bN, 0, none⟩ = some (.int .u64 a1) := (blk_cell kN 0).trans rfl
  have ecN1 : w7.cell? ⟨bN, 1, none⟩ = some (.int .u64 a0) := (blk_cell kN 1).trans rfl
  clear kN
  obtain ⟨cn, hcn⟩ := Int.eq_ofNat_of_zero_le (show 0 ≤ cp by omega)
  subst hcn
  have cn1 : cn ≤ 1000 := by omega
  obtain ⟨p1, hp1⟩ : ∃ p1, 1 + inn = p1 := ⟨_, rfl⟩
  obtain ⟨p2, hp2⟩ : ∃ p2, p1 + rt = p2 := ⟨_, rfl⟩
  have hw1 : IntKind.i64.wrap (1 + inn) = p1 := by rw [i64_w]; unfold wrap64; omega
  have hw2 : IntKind.i64.wrap (p1 + rt) = p2 := by rw [i64_w]; unfold wrap64; omega
  have hw3 : IntKind.i64.wrap (p2 + lf) = (cn : Int) := by rw [i64_w]; unfold wrap64; omega
  clear hp1 hp2
  obtain ⟨M, hM, hmk⟩ : ∃ M : Array Value, M.size = cn * 2 ∧ ∀ W : World, (Instr.makeSlice 120 (.int .i64 0) (.int .i64 (cn : Int))).run Tryd.prog W = .ok (.slice (some ⟨W.heap.size, 0, none⟩) 0 cn) (W.alloc (.cells M 106)) := by
   obtain ⟨i0, hi, hzz⟩ := Option.map_eq_some_iff.1 info106
   simp only [Prod.mk.injEq] at hzz
   obtain ⟨hz0, hz1, hz2⟩ := hzz
   refine ⟨madeCells (Value.agg #[.int .u64 0, .int .u64 0]).cells (cn * 2), size_madeCells _ _, fun W => ?_⟩
   have h := run_make (P := Tryd.prog) W 120 106 i0 _ Tryd.underlying120 hi hz0 .i64 .i64 0 (cn : Int) (by decide) (by omega) (by rw [hz2]; omega) (by omega)
   rw [hz1] at h
   exact h
  have HM := zM hM
  clear hM
  go_region_law (first | (refine Kd.R_append_rows_step k106 (Rr := k106.K _) (w0 := w7) w7.heap.size (by rfl) (.tmp 51) (.tmp 53) 120 106 (.agg #[.int .u64 0, .int .u64 0]) 16 (by rfl) Tryd.underlying120 info106 rfl (by decide) (by decide) (.slice (some ⟨w7.heap.size, 0, none⟩) 0 cn) ([] : List S106) [(⟨a1, a0⟩ : S106)] (some ⟨w7.heap.size + 1, 0, none⟩) 1 1 (fun k_ => w7.heap.size ≤ k_) (fun _ => False) (by rfl) (by rfl) (Kd.R_drew (Kd.R_alloc (nd_made (fun k_ => w7.heap.size ≤ k_) w7 w7.heap.size M cn HM.out (Nat.le_refl _) (by unfold maxLen; omega) (Nat.le_refl _)) _)) (nd_lit _ _ a1 a0 (by have h := blk_drew (blk_new (w7.alloc (Obj.cells M 106)) (Obj.cells #[.int .u64 a1, .int .u64 a0] 106)); rwa [nd_size] at h)) (fun x cs hx => hx) (fun _ h => h.elim) (fun k_ h_ => Nat.le_trans (below_drew (below_alloc (below_alloc (Below.refl w7.heap.size w7) (Obj.cells M 106)) (Obj.cells #[.int .u64 a1, .int .u64 a0] 106))).size h_) (below_drew (below_alloc (below_alloc (Below.refl w7.heap.size w7) (Obj.cells M 106)) (Obj.cells #[.int .u64 a1, .int .u64 a0] 106))) (below_drew (below_alloc (below_alloc (Below.refl w7.heap.size w7) (Obj.cells M 106)) (Obj.cells #[.int .u64 a1, .int .u64 a0] 106))).size (by simp) ?_; intro v1 w1 hR1 hb1 hg1 hat1) | (refine Kd.R_append_rows_step k106 (Rr := k106.K _) (w0 := w7) w7.heap.size (by rfl) (.tmp 51) (.tmp 53) 120 106 (.agg #[.int .u64 0, .int .u64 0]) 16 (by rfl) Tryd.underlying120 info106 rfl (by decide) (by decide) (.slice (some ⟨w7.heap.size + 1, 0, none⟩) 0 cn) ([] : List S106) [(⟨a1, a0⟩ : S106)] (some ⟨w7.heap.size, 0, none⟩) 1 1 (fun k_ => w7.heap.size ≤ k_) (fun _ => False) (by rfl) (by rfl) (by have h := Kd.R_drew (nd_made (fun k_ => w7.heap.size ≤ k_) (w7.alloc (Obj.cells #[.int .u64 a1, .int .u64 a0] 106)) w7.heap.size M cn HM.out (by rw [nd_size]; omega) (by unfold maxLen; omega) (by rw [nd_size]; omega)); rwa [nd_size] at h) (nd_lit _ _ a1 a0 (blk_drew (blk_alloc (blk_new w7 (Obj.cells #[.int .u64 a1, .int .u64 a0] 106)) (Obj.cells M 106)))) (fun x cs hx => hx) (fun _ h => h.elim) (fun k_ h_ => Nat.le_trans (below_drew (below_alloc (below_alloc (Below.refl w7.heap.size w7) (Obj.cells #[.int .u64 a1, .int .u64 a0] 106)) (Obj.cells M 106))).size h_) (below_drew (below_alloc (below_alloc (Below.refl w7.heap.size w7) (Obj.cells #[.int .u64 a1, .int .u64 a0] 106)) (Obj.cells M 106))) (below_drew (below_alloc (below_alloc (Below.refl w7.heap.size w7) (Obj.cells #[.int .u64 a1, .int .u64 a0] 106)) (Obj.cells M 106))).size (by simp) ?_; intro v1 w1 hR1 hb1 hg1 hat1))
  all_goals
   go_wp2
   go_meet
   case rel => exact ⟨⟨Kd.R_lower hR1 HB0.out.size⟩, ⟨hb1⟩⟩
 case rest =>
  obtain ⟨HR0, HBc⟩ := hcut
  clear kN
  have hbs := HBc.out.size
  have HK1 := zM (blk_below HKR.out HBc.out)
  have HK2 := zM (blk_below HKF.out HBc.out)
  have HK3 := zM (blk_below HKN.out HBc.out)
  have HB1 := zM (below_step HB0.out HBc.out)
  have HR1 := zM (Kd.R_mono (ok' := (fun k_ => k_ ≠ w.heap.size ∧ k_ ≠ bF ∧ k_ ≠ bN)) HR0.out (fun k_ hk => ⟨by omega, by omega, by omega⟩))
  have HS := zM hn1
  clear hn1 HR0 HBc HKR HKF HKN HB0
  go_wp2
  go_loopg [14] k (fun kq v14 w' => ∃ (lv ix : Int) (xs : List S106), Aside0 (w'.heap[bN]? = some (.cells #[.int .u64 lv, .int .u64 ix] 106 (0, 0))) ∧ Aside0 (sibs kq lv ix fl xs = some n1) ∧ Aside0 (kq ≤ k) ∧ Aside0 (Kd.R k106 106 w' w.heap.size (fun k_ => k_ ≠ w.heap.size ∧ k_ ≠ bF ∧ k_ ≠ bN) v14 xs) ∧ Aside0 (w'.heap[bF]? = some (.cells #[.int .u64 fl, .int .u64 fi] 106 (0, 0))) ∧ Aside0 (w'.heap[w.heap.size]? = some (.cells #[.slice none 0 0, .int .i64 0, .int .i64 0, .int .u64 0, .int .u64 0] 122 (0, 0))) ∧ Aside0 (Below w.heap.size w w'))
  case atStart => exact ⟨a1, a0, _, HK3, HS, ⟨Nat.le_refl _⟩, HR1, HK2, HK1, HB1⟩
  case round =>
   clear HK1 HK2 HK3 HB1 HR1 HS
   obtain ⟨lv, ix, xs, HKn, HA, HKq, HR, HKf, HKr, HB⟩ := hrel
   cases gk with
   | zero => exact absurd HA.out (by simp [sibs])
   | succ kk =>
    have H := HA.out
    clear HA
    simp only [sibs] at H
    have eN0 : wr.cell? ⟨bN, 0, none⟩ = some (.int .u64 lv) := (blk_cell HKn.out 0).trans rfl
    have eN1 : wr.cell? ⟨bN, 1, none⟩ = some (.int .u64 ix) := (blk_cell HKn.out 1).trans rfl
    have eF0 : wr.cell? ⟨bF, 0, none⟩ = some (.int .u64 fl) := (blk_cell HKf.out 0).trans rfl
    have eF1 : wr.cell? ⟨bF, 1, none⟩ = some (.int .u64 fi) := (blk_cell HKf.out 1).trans rfl
    by_cases c : lv < fl
    ·rw [if_pos c] at H
     by_cases cl : xs.length < 1099511627776
     ·rw [if_pos cl] at H
      obtain ⟨⟨s1', s2'⟩, hs, H⟩ := Option.bind_eq_some_iff.mp H
      obtain ⟨⟨p1', p2'⟩, hp, H⟩ := Option.bind_eq_some_iff.mp H
      have HSb := zM hs
      have HPa := zM hp
      have HN := zM H
      clear hs hp H
      obtain ⟨A9, c9, rfl⟩ := Kd.R_slice HR.out
      go_wp2_with (first
       | (go_at_call 116; (with_reducible refine (compact_NodeID_Sibling.calls lv ix s1' s2' _ HSb.out).mono ?_); rintro e w1 ⟨rfl, hB⟩; replace eN0 := (hB.cell (World.block_lt_of_cell? wr _ eN0)).trans eN0; replace eN1 := (hB.cell (World.block_lt_of_cell? wr _ eN1)).trans eN1; have HR2 := zM (Kd.R_below HR.out hB); have HKn2 := zM (blk_below HKn.out hB); have HKf2 := zM (blk_below HKf.out hB); have HKr2 := zM (blk_below HKr.out hB); have HB2 := zM (below_step HB.out hB); clear hB)
       | ((with_reducible refine gate_builtin (b := .append) (xs := #[.tmp 62, .tmp 65]) rfl ?_); at_builtin; refine Kd.R_append k106 (w0 := w) w.heap.size rfl (.tmp 62) (.tmp 65) 120 106 (.agg #[.int .u64 0, .int .u64 0]) 16 rfl Tryd.underlying120 info106 rfl (by decide) (by omega) (.slice A9 xs.length c9) xs (⟨s1', s2'⟩ : S106) [.int .u64 s1', .int .u64 s2'] (fun k_ => k_ ≠ w.heap.size ∧ k_ ≠ bF ∧ k_ ≠ bN) (fun _ => False) rfl rfl (k106_mkM _ _ _ (⟨s1', s2'⟩ : S106)) (fun _ hk => hk.elim) (fun k_ hk => ⟨by have := blk_lt HKr2.out; omega, by have := blk_lt HKf2.out; omega, by have := blk_lt HKn2.out; omega⟩) HR2.out HB2.out HB2.out.size (by omega) ?_; intro v8 w8 ho hb hg hat; have HR3 := zM ho; have HB3 := zM hb; have HKn3 := zM (blk_grown HKn2.out hg (fun e => (HR2.out.1 _ e.symm).2.2 rfl)); have HKf3 := zM (blk_grown HKf2.out hg (fun e => (HR2.out.1 _ e.symm).2.1 rfl)); have HKr3 := zM (blk_grown HKr2.out hg (fun e => (HR2.out.1 _ e.symm).1 rfl)); clear ho hb hg hat; clear eN0 eN1; obtain ⟨eN0, eN1⟩ := h2 HKn3)
       | (go_at_call 66; (with_reducible refine (compact_NodeID_Parent.calls lv ix p1' p2' _ HPa.out).mono ?_); rintro e w9 ⟨rfl, hB⟩; replace eN0 := (hB.cell (World.block_lt_of_cell? w8 _ eN0)).trans eN0; replace eN1 := (hB.cell (World.block_lt_of_cell? w8 _ eN1)).trans eN1; have HR4 := zM (Kd.R_below HR3.out hB); have HKn4 := zM (blk_below HKn3.out hB); have HKf4 := zM (blk_below HKf3.out hB); have HKr4 := zM (blk_below HKr3.out hB); have HB4 := zM (below_step HB3.out hB); obtain ⟨f0, f1⟩ := f2 HKn4; clear hB))
      go_roundg kk
      case measure => have := HKq.out; omega
      case rel =>
       have hne1 : ∀ k_, k_ ≠ w.heap.size ∧ k_ ≠ bF ∧ k_ ≠ bN → k_ ≠ bN := fun _ h => h.2.2
       exact ⟨p1', p2', xs ++ [(⟨s1', s2'⟩ : S106)], ⟨blk_put (blk_put HKn4.out 0 _ rfl) 1 _ rfl⟩, HN, ⟨by have := HKq.out; omega⟩, ⟨Kd.R_far (p := ⟨bN, 1, none⟩) (Kd.R_far (p := ⟨bN, 0, none⟩) HR4.out hne1 _) hne1 _⟩, ⟨blk_far (blk_far HKf4.out (by simp; omega) _) (by simp; omega) _⟩, ⟨blk_far (blk_far HKr4.out (by simp; omega) _) (by simp; omega) _⟩, ⟨(HB4.out.setCell (by simp; omega) _).setCell (by simp; omega) _⟩⟩
     ·rw [if_neg cl] at H; exact absurd H (by simp)
    ·rw [if_neg c] at H
     have HXN := zM (Option.some.inj H)
     clear H
     have bc : decide (lv < fl) = false := decide_eq_false c
     have GG := zM HXN.out
     rw [HXN.out] at HR
     clear HXN
     obtain ⟨A9, c9, rfl⟩ := Kd.R_slice HR.out
     obtain ⟨j2, hj2⟩ : ∃ j2 : Nat, (n2.length : Int) - rt = (j2 : Int) := ⟨((n2.length : Int) - rt).toNat, by omega⟩
     obtain ⟨j3, hj3⟩ : ∃ j3 : Nat, (n3.length : Int) - lf = (j3 : Int) := ⟨((n3.length : Int) - lf).toNat, by omega⟩
     have hw2 : IntKind.i64.wrap ((n2.length : Int) - rt) = (j2 : Int) := by rw [i64_w]; unfold wrap64; omega
     have hw3 : IntKind.i64.wrap ((n3.length : Int) - lf) = (j3 : Int) := by rw [i64_w]; unfold wrap64; omega
     rw [hj2, Int.toNat_natCast] at hv2 hn3 hl2
     rw [hj3, Int.toNat_natCast] at hv3 hl3
     obtain ⟨z2, hz2⟩ : ∃ z, z = n2.take j2 ++ v2 := ⟨_, rfl⟩
     obtain ⟨z3, hz3⟩ : ∃ z, z = n3.take j3 ++ v3 := ⟨_, rfl⟩
     have HJ3 := zM hj3
     rw [← hz2] at hn3 hl2
     rw [← hz3] at hl3
     have HZ2 := zM hz2
     have HZ3 := zM hz3
     have HL2 := zM hl2
     have HL3 := zM hl3
     have HN2 := zM hn2
     have HV2 := zM hv2
     have HN3 := zM hn3
     have HV3 := zM hv3
     have HE := zM he
     have jb2 : j2 ≤ n2.length := by omega
     have jb3 : j3 ≤ n3.length := by omega
     clear hn2 hv2 hn3 hv3 he hl2 hl3 hz2 hz3
     go_upto_region 13 with (go_at_call 79; (with_reducible refine (compact_RangeNodes.calls k c2 a2 (fun k_ => k_ ≠ w.heap.size ∧ k_ ≠ bF ∧ k_ ≠ bN) _ n1 n2 w _ HT.out HB.out HR.out HN2.out).mono ?_); rintro e w11 ⟨v, rfl, hR, hB, hK⟩; obtain ⟨A11, c11, rfl⟩ := Kd.R_slice hR; have HR11 := zM (Kd.R_mono (ok' := (fun k_ => k_ ≠ w.heap.size ∧ k_ ≠ bF ∧ k_ ≠ bN)) hR (fun k_ hk => hk.elim id (fun hk => ⟨by have := blk_lt HKr.out; omega, by have := blk_lt HKf.out; omega, by have := blk_lt HKn.out; omega⟩))); have HKn11 := zM ((hK.2 _ (blk_lt HKn.out) (fun h => h.2.2 rfl)).trans HKn.out); have HKf11 := zM ((hK.2 _ (blk_lt HKf.out) (fun h => h.2.1 rfl)).trans HKf.out); have HKr11 := zM ((hK.2 _ (blk_lt HKr.out) (fun h => h.1 rfl)).trans HKr.out); have HB11 := zM hB; clear hR hB hK)
     obtain ⟨q2v, hq2, hc2⟩ := nd_cut A11 c11 n2.length j2 jb2
     have HQ2 := zM hq2
     clear hq2
     go_upto_region 16 with (first | (go_at_call 117; (with_reducible refine (reverse_endv k (fun k_ => k_ ≠ w.heap.size ∧ k_ ≠ bF ∧ k_ ≠ bN) q2v A11 c11 n2 v2 j2 w _ HQ2.out (by omega) HB11.out HR11.out HV2.out).mono ?_); rintro e w12 ⟨rfl, hR, hB, hK⟩; have HR12 := zM (show Kd.R k106 106 w12 w.heap.size (fun k_ => k_ ≠ w.heap.size ∧ k_ ≠ bF ∧ k_ ≠ bN) (.slice A11 n2.length c11) z2 from by rw [HZ2.out]; exact Kd.R_mono (ok' := (fun k_ => k_ ≠ w.heap.size ∧ k_ ≠ bF ∧ k_ ≠ bN)) hR (fun k_ hk => hk.elim id (fun hk => ⟨by have := blk_lt HKr11.out; omega, by have := blk_lt HKf11.out; omega, by have := blk_lt HKn11.out; omega⟩))); have HKn12 := zM ((hK.2 _ (blk_lt HKn11.out) (fun h => h.2.2 rfl)).trans HKn11.out); have HKf12 := zM ((hK.2 _ (blk_lt HKf11.out) (fun h => h.2.1 rfl)).trans HKf11.out); have HKr12 := zM ((hK.2 _ (blk_lt HKr11.out) (fun h => h.1 rfl)).trans HKr11.out); have HB12 := zM hB; clear hR hB hK) | (go_at_call 79; (with_reducible refine (compact_RangeNodes.calls k 0 c1 (fun k_ => k_ ≠ w.heap.size ∧ k_ ≠ bF ∧ k_ ≠ bN) _ z2 n3 w _ HT.out HB12.out HR12.out HN3.out).mono ?_); rintro e w13 ⟨v, rfl, hR, hB, hK⟩; obtain ⟨A13, c13, rfl⟩ := Kd.R_slice hR; have HR13 := zM (Kd.R_mono (ok' := (fun k_ => k_ ≠ w.heap.size ∧ k_ ≠ bF ∧ k_ ≠ bN)) hR (fun k_ hk => hk.elim id (fun hk => ⟨by have := blk_lt HKr12.out; omega, by have := blk_lt HKf12.out; omega, by have := blk_lt HKn12.out; omega⟩))); have HKn13 := zM ((hK.2 _ (blk_lt HKn12.out) (fun h => h.2.2 rfl)).trans HKn12.out); have HKf13 := zM ((hK.2 _ (blk_lt HKf12.out) (fun h => h.2.1 rfl)).trans HKf12.out); have HKr13 := zM ((hK.2 _ (blk_lt HKr12.out) (fun h => h.1 rfl)).trans HKr12.out); have HB13 := zM hB; clear hR hB hK))
     obtain ⟨q3v, hq3, hc3⟩ := nd_cut A13 c13 n3.length j3 jb3
     have HQ3 := zM hq3
     clear hq3
     by_cases cc : n2.length ≤ n1.length
     ·have cc0 : (n2.length : Int) ≤ (n1.length : Int) := by omega
      have cc1 : decide ((n2.length : Int) ≤ (n1.length : Int)) = true := decide_eq_true cc0
      go_wp2_with (first
       | (go_at_call 117; (with_reducible refine (reverse_endv k (fun k_ => k_ ≠ w.heap.size ∧ k_ ≠ bF ∧ k_ ≠ bN) q3v A13 c13 n3 v3 j3 w _ HQ3.out (by omega) HB13.out HR13.out HV3.out).mono ?_); rintro e w14 ⟨rfl, hR, hB, hK⟩; have HR14 := zM (show Kd.R k106 106 w14 w.heap.size (fun k_ => k_ ≠ w.heap.size ∧ k_ ≠ bF ∧ k_ ≠ bN) (.slice A13 n3.length c13) z3 from by rw [HZ3.out]; exact Kd.R_mono (ok' := (fun k_ => k_ ≠ w.heap.size ∧ k_ ≠ bF ∧ k_ ≠ bN)) hR (fun k_ hk => hk.elim id (fun hk => ⟨by have := blk_lt HKr13.out; omega, by have := blk_lt HKf13.out; omega, by have := blk_lt HKn13.out; omega⟩))); have HKf14 := zM ((hK.2 _ (blk_lt HKf13.out) (fun h => h.2.1 rfl)).trans HKf13.out); have HKr14 := zM ((hK.2 _ (blk_lt HKr13.out) (fun h => h.1 rfl)).trans HKr13.out); have HB14 := zM hB; clear hR hB hK; obtain ⟨gF0, gF1⟩ := h2 HKf14)
       | (go_at_call 116; (with_reducible refine (compact_NodeID_Sibling.calls fl fi e1 e2 _ HE.out).mono ?_); rintro e w15 ⟨rfl, hB⟩; have HR15 := zM (Kd.R_below HR14.out hB); have HKr15 := zM (blk_below HKr14.out hB); have HB15 := zM (below_step HB14.out hB); clear hB; obtain ⟨f0, f1, f2, f3, f4⟩ := f5 HKr15; obtain ⟨r0, r1, r2, r3, r4⟩ := h5 HKr15))
      have hne1 : ∀ k_, k_ ≠ w.heap.size ∧ k_ ≠ bF ∧ k_ ≠ bN → k_ ≠ w.heap.size := fun _ h => h.1
      refine bodyPost_ret (results_cell_row rfl _ _ w.heap.size 122 #[(.slice A13 n3.length c13), (.int .i64 0), (.int .i64 0), (.int .u64 e1), (.int .u64 e2)] (0, 0) _ rfl (blk_put (cs := #[(.slice A13 n3.length c13), (.int .i64 0), (.int .i64 0), (.int .u64 e1), (.int .u64 0)]) (blk_put (cs := #[(.slice A13 n3.length c13), (.int .i64 0), (.int .i64 0), (.int .u64 0), (.int .u64 0)]) (blk_put (cs := #[(.slice A13 n3.length c13), (.int .i64 0), (.int .i64 0), (.int .u64 0), (.int .u64 0)]) (blk_put (cs := #[(.slice A13 n3.length c13), (.int .i64 0), (.int .i64 0), (.int .u64 0), (.int .u64 0)]) (blk_put (cs := #[(.slice none 0 0), (.int .i64 0), (.int .i64 0), (.int .u64 0), (.int .u64 0)]) HKr15.out 0 _ rfl) 1 _ rfl) 2 _ rfl) 3 _ rfl) 4 _ rfl) Tryd.underlying122 rfl (by kernel_rfl)) rfl ?_
      refine ⟨.slice A13 n3.length c13, ?_, ?_, (below_set (below_set (below_set (below_set (below_set HB15.out (Nat.le_refl _)) (Nat.le_refl _)) (Nat.le_refl _)) (Nat.le_refl _)) (Nat.le_refl _))⟩
      ·first | rfl | rw [if_pos cc, if_pos cc]
      ·first | rw [← HZ3.out] | rw [HJ3.out, Int.toNat_natCast, ← HZ3.out]
       exact Kd.R_mono (Kd.R_far (p := ⟨w.heap.size, 4, none⟩) (Kd.R_far (p := ⟨w.heap.size, 3, none⟩) (Kd.R_far (p := ⟨w.heap.size, 2, none⟩) (Kd.R_far (p := ⟨w.heap.size, 1, none⟩) (Kd.R_far (p := ⟨w.heap.size, 0, none⟩) HR15.out hne1 (.slice A13 n3.length c13)) hne1 (.int .i64 0)) hne1 (.int .i64 0)) hne1 (.int .u64 e1)) hne1 (.int .u64 e2)) (fun _ _ => trivial)
     ·have cc0 : ¬ (n2.length : Int) ≤ (n1.length : Int) := by omega
      have cc1 : decide ((n2.length : Int) ≤ (n1.length : Int)) = false := decide_eq_false cc0
      go_wp2_with (first
       | (go_at_call 117; (with_reducible refine (reverse_endv k (fun k_ => k_ ≠ w.heap.size ∧ k_ ≠ bF ∧ k_ ≠ bN) q3v A13 c13 n3 v3 j3 w _ HQ3.out (by omega) HB13.out HR13.out HV3.out).mono ?_); rintro e w14 ⟨rfl, hR, hB, hK⟩; have HR14 := zM (show Kd.R k106 106 w14 w.heap.size (fun k_ => k_ ≠ w.heap.size ∧ k_ ≠ bF ∧ k_ ≠ bN) (.slice A13 n3.length c13) z3 from by rw [HZ3.out]; exact Kd.R_mono (ok' := (fun k_ => k_ ≠ w.heap.size ∧ k_ ≠ bF ∧ k_ ≠ bN)) hR (fun k_ hk => hk.elim id (fun hk => ⟨by have := blk_lt HKr13.out; omega, by have := blk_lt HKf13.out; omega, by have := blk_lt HKn13.out; omega⟩))); have HKf14 := zM ((hK.2 _ (blk_lt HKf13.out) (fun h => h.2.1 rfl)).trans HKf13.out); have HKr14 := zM ((hK.2 _ (blk_lt HKr13.out) (fun h => h.1 rfl)).trans HKr13.out); have HB14 := zM hB; clear hR hB hK; obtain ⟨gF0, gF1⟩ := h2 HKf14)
       | (go_at_call 116; (with_reducible refine (compact_NodeID_Sibling.calls fl fi e1 e2 _ HE.out).mono ?_); rintro e w15 ⟨rfl, hB⟩; have HR15 := zM (Kd.R_below HR14.out hB); have HKr15 := zM (blk_below HKr14.out hB); have HB15 := zM (below_step HB14.out hB); clear hB; obtain ⟨f0, f1, f2, f3, f4⟩ := f5 HKr15; obtain ⟨r0, r1, r2, r3, r4⟩ := h5 HKr15))
      have hne1 : ∀ k_, k_ ≠ w.heap.size ∧ k_ ≠ bF ∧ k_ ≠ bN → k_ ≠ w.heap.size := fun _ h => h.1
      refine bodyPost_ret (results_cell_row rfl _ _ w.heap.size 122 #[(.slice A13 n3.length c13), (.int .i64 (n1.length : Int)), (.int .i64 (n2.length : Int)), (.int .u64 e1), (.int .u64 e2)] (0, 0) _ rfl (blk_put (cs := #[(.slice A13 n3.length c13), (.int .i64 (n1.length : Int)), (.int .i64 (n2.length : Int)), (.int .u64 e1), (.int .u64 0)]) (blk_put (cs := #[(.slice A13 n3.length c13), (.int .i64 (n1.length : Int)), (.int .i64 (n2.length : Int)), (.int .u64 0), (.int .u64 0)]) (blk_put (cs := #[(.slice A13 n3.length c13), (.int .i64 (n1.length : Int)), (.int .i64 0), (.int .u64 0), (.int .u64 0)]) (blk_put (cs := #[(.slice A13 n3.length c13), (.int .i64 0), (.int .i64 0), (.int .u64 0), (.int .u64 0)]) (blk_put (cs := #[(.slice none 0 0), (.int .i64 0), (.int .i64 0), (.int .u64 0), (.int .u64 0)]) HKr15.out 0 _ rfl) 1 _ rfl) 2 _ rfl) 3 _ rfl) 4 _ rfl) Tryd.underlying122 rfl (by kernel_rfl)) rfl ?_
      refine ⟨.slice A13 n3.length c13, ?_, ?_, (below_set (below_set (below_set (below_set (below_set HB15.out (Nat.le_refl _)) (Nat.le_refl _)) (Nat.le_refl _)) (Nat.le_refl _)) (Nat.le_refl _))⟩
      ·first | rfl | rw [if_neg cc, if_neg cc]
      ·first | rw [← HZ3.out] | rw [HJ3.out, Int.toNat_natCast, ← HZ3.out]
       exact Kd.R_mono (Kd.R_far (p := ⟨w.heap.size, 4, none⟩) (Kd.R_far (p := ⟨w.heap.size, 3, none⟩) (Kd.R_far (p := ⟨w.heap.size, 2, none⟩) (Kd.R_far (p := ⟨w.heap.size, 1, none⟩) (Kd.R_far (p := ⟨w.heap.size, 0, none⟩) HR15.out hne1 (.slice A13 n3.length c13)) hne1 (.int .i64 (n1.length : Int))) hne1 (.int .i64 (n2.length : Int))) hne1 (.int .u64 e1)) hne1 (.int .u64 e2)) (fun _ _ => trivial)
def proof_nodes.f (k : Nat) (a0 a1 a2 : Int) : Option (List S106 × Int × Int × Int × Int) :=
 if 0 ≤ a1 ∧ a1 ≤ 63 then (bits_Len64.f (Go.bits .xor .u64 a0 (shr .u64 a2 a1))).bind fun L => if 1 ≤ L ∧ L ≤ 64 then
  (compact_NodeID_Coverage.f (a1 + (L - 1)) (shr .u64 a0 (L - 1))).bind fun c => (compact_RangeSize.f 0 c.1).bind fun lf => (compact_RangeSize.f c.2 a2).bind fun rt => if 0 ≤ lf ∧ lf ≤ 200 ∧ 0 ≤ rt ∧ rt ≤ 200 then
   (sibs k a1 a0 (a1 + (L - 1)) [(⟨a1, a0⟩ : S106)]).bind fun n1 => (compact_RangeNodes.f k c.2 a2 n1).bind fun n2 => if rt ≤ (n2.length : Int) ∧ n2.length ≤ 1099511627776 then
    (proof_reverse.f k (n2.drop ((n2.length : Int) - rt).toNat)).bind fun v2 => if (n2.take ((n2.length : Int) - rt).toNat ++ v2).length = n2.length then (compact_RangeNodes.f k 0 c.1 (n2.take ((n2.length : Int) - rt).toNat ++ v2)).bind fun n3 => if lf ≤ (n3.length : Int) ∧ n3.length ≤ 1099511627776 then
     (proof_reverse.f k (n3.drop ((n3.length : Int) - lf).toNat)).bind fun v3 => if (n3.take ((n3.length : Int) - lf).toNat ++ v3).length = n3.length then (compact_NodeID_Sibling.f (a1 + (L - 1)) (shr .u64 a0 (L - 1))).bind fun e =>
      some (n3.take ((n3.length : Int) - lf).toNat ++ v3, (if n2.length ≤ n1.length then 0 else (n1.length : Int)), (if n2.length ≤ n1.length then 0 else (n2.length : Int)), e.1, e.2)
     else none else none else none else none else none else none else none
theorem proof_nodes.calls (k : Nat) (a0 a1 a2 : Int) (r1 : List S106) (r2 r3 r4 r5 : Int) (w : World) (hT : TabOK w) (h : proof_nodes.f k a0 a1 a2 = some (r1, r2, r3, r4, r5)) :
  Calls Tryd.prog 102 #[.int .u64 a0, .int .u64 a1, .int .u64 a2] w fun e w' => ∃ v0_ : Value, e = .returned (.agg #[v0_, .int .i64 r2, .int .i64 r3, .int .u64 r4, .int .u64 r5]) ∧ Kd.R k106 106 w' w.heap.size (fun _ => True) v0_ r1 ∧ Below w.heap.size w w' := by
 unfold proof_nodes.f at h
 by_cases b : 0 ≤ a1 ∧ a1 ≤ 63
 ·rw [if_pos b] at h
  obtain ⟨L, hL, h⟩ := Option.bind_eq_some_iff.mp h
  by_cases i : 1 ≤ L ∧ L ≤ 64
  ·rw [if_pos i] at h
   obtain ⟨⟨c1, c2⟩, hcv, h⟩ := Option.bind_eq_some_iff.mp h
   obtain ⟨lf, hlf, h⟩ := Option.bind_eq_some_iff.mp h
   obtain ⟨rt, hrt, h⟩ := Option.bind_eq_some_iff.mp h
   by_cases l : 0 ≤ lf ∧ lf ≤ 200 ∧ 0 ≤ rt ∧ rt ≤ 200
   ·rw [if_pos l] at h
    obtain ⟨n1, hn1, h⟩ := Option.bind_eq_some_iff.mp h
    obtain ⟨n2, hn2, h⟩ := Option.bind_eq_some_iff.mp h
    by_cases g2 : rt ≤ (n2.length : Int) ∧ n2.length ≤ 1099511627776
    ·rw [if_pos g2] at h
     obtain ⟨v2, hv2, h⟩ := Option.bind_eq_some_iff.mp h
     by_cases y2 : (n2.take ((n2.length : Int) - rt).toNat ++ v2).length = n2.length
     ·rw [if_pos y2] at h
      obtain ⟨n3, hn3, h⟩ := Option.bind_eq_some_iff.mp h
      by_cases g3 : lf ≤ (n3.length : Int) ∧ n3.length ≤ 1099511627776
      ·rw [if_pos g3] at h
       obtain ⟨v3, hv3, h⟩ := Option.bind_eq_some_iff.mp h
       by_cases y3 : (n3.take ((n3.length : Int) - lf).toNat ++ v3).length = n3.length
       ·rw [if_pos y3] at h
        obtain ⟨⟨e1, e2⟩, he, h⟩ := Option.bind_eq_some_iff.mp h
        simp only [Option.some.injEq, Prod.mk.injEq] at h
        obtain ⟨rfl, rfl, rfl, rfl, rfl⟩ := h
        exact nodes_a k a0 a1 a2 w hT _ _ (L - 1) _ _ c1 c2 lf rt b.1 b.2 rfl rfl (by rw [hL]; congr 1; omega) (by omega) (by omega) rfl rfl hcv hlf hrt l.1 l.2.1 l.2.2.1 l.2.2.2 n1 hn1 n2 v2 n3 v3 e1 e2 hn2 g2.1 g2.2 hv2 hn3 g3.1 g3.2 hv3 he y2 y3
       ·rw [if_neg y3] at h; cases h
      ·rw [if_neg g3] at h; cases h
     ·rw [if_neg y2] at h; cases h
    ·rw [if_neg g2] at h; cases h
   ·rw [if_neg l] at h; cases h
  ·rw [if_neg i] at h; cases h
 ·rw [if_neg b] at h; cases h
def proof_Nodes_skipFirst.f (l0_0 : List (S106)) (a0_1 : Int) (a0_2 : Int) (a0_3 : Int) (a0_4 : Int) : Option ((List (S106)) × Int × Int × Int × Int) := if 1 ≤ (l0_0.length : Int) then ((some (l0_0.drop 1 : List (S106))).bind fun y315 => (if a0_1 < a0_2 then (some (y315, wrap64 (a0_1 - 1), wrap64 (a0_2 - 1), a0_3, a0_4)) else (some (y315, a0_1, a0_2, a0_3, a0_4)))) else (none)
set_option maxHeartbeats 8000000 in
set_option maxRecDepth 100000 in
theorem proof_Nodes_skipFirst.calls (P0_0_ : Nat → Prop) (A0_0 : Option Addr) (c0_0 : Nat) (l0_0 : List (S106)) (a0_1 : Int) (a0_2 : Int) (a0_3 : Int) (a0_4 : Int) (r1 : List (S106)) (r2 : Int) (r3 : Int) (r4 : Int) (r5 : Int) (w : World) (hs0_0 : Kd.V k106 106 w w.heap.size (fun k_ => P0_0_ k_) (.slice A0_0 l0_0.length c0_0) l0_0) (h : proof_Nodes_skipFirst.f l0_0 a0_1 a0_2 a0_3 a0_4 = some (r1, r2, r3, r4, r5)) :
  Calls Tryd.prog 103 #[.agg #[.slice A0_0 l0_0.length c0_0, .int .i64 a0_1, .int .i64 a0_2, .int .u64 a0_3, .int .u64 a0_4]] w fun e w' => ∃ v0_ : Value, e = .returned (.agg #[v0_, .int .i64 r2, .int .i64 r3, .int .u64 r4, .int .u64 r5]) ∧ Kd.V k106 106 w' w.heap.size (fun k_ => (P0_0_ k_ ∨ w.heap.size ≤ k_)) v0_ r1 ∧ Below w.heap.size w w' := by
 have hu122 := Tryd.underlying122
 have HO0_0 := zM (show Kd.V k106 106 w w.heap.size (fun k_ => (P0_0_ k_ ∨ w.heap.size ≤ k_)) (.slice A0_0 l0_0.length c0_0) l0_0 from Kd.V_mono hs0_0 (fun k_ hk => .inl hk))
 have HB := zM (Below.refl w.heap.size w)
 have H : (if 1 ≤ (l0_0.length : Int) then ((some (l0_0.drop 1 : List (S106))).bind fun y315 => (if a0_1 < a0_2 then (some (y315, wrap64 (a0_1 - 1), wrap64 (a0_2 - 1), a0_3, a0_4)) else (some (y315, a0_1, a0_2, a0_3, a0_4)))) else (none)) = some (r1, r2, r3, r4, r5) := h
 clear h
 by_cases c2 : 1 ≤ (l0_0.length : Int)
 ·rw [if_pos c2] at H
  have c2b0 := eq_true c2
  have c2b1 : decide (1 ≤ (l0_0.length : Int)) = true := decide_eq_true c2
  clear c2
  obtain ⟨y315, hy315⟩ : ∃ y_ : List (S106), y_ = (l0_0.drop 1) := ⟨_, rfl⟩
  replace H : (if a0_1 < a0_2 then (some (y315, wrap64 (a0_1 - 1), wrap64 (a0_2 - 1), a0_3, a0_4)) else (some (y315, a0_1, a0_2, a0_3, a0_4))) = some (r1, r2, r3, r4, r5) := by first | (rw [hy315]; with_reducible exact H) | (have H := (Option.bind_some _ _).symm.trans H; first | (rw [hy315]; with_reducible exact H) | with_reducible exact H) | (rw [hy315]; exact H) | exact H
  have Ny315 := zM hy315
  clear hy315
  by_cases c3 : a0_1 < a0_2
  ·rw [if_pos c3] at H
   have c3b0 : decide (a0_1 < a0_2) = true := decide_eq_true c3
   clear c3
   simp only [Option.some.injEq, Prod.mk.injEq] at H
   obtain ⟨rfl, rfl, rfl, rfl, rfl⟩ := H
   go_enter Tryd.func103, Tryd.ntmps103
   go_wp2_with (first | ((with_reducible refine gate_dst (N := 1) rfl ?_); refine bx 1 #[.slice A0_0 l0_0.length c0_0, .int .i64 a0_1, .int .i64 a0_2, .int .u64 a0_3, .int .u64 a0_4] 122 ?_; intro gb313 hg w4 hbox hb; replace HO0_0 := zM (Kd.V_below (Kd.V_elderB (kV HO0_0.out) gb313 (Nat.le_of_eq hg.symm)) hb); have BK313 := zM (hbox); have GW313 := zM ((gB hg : w.heap.size ≤ gb313)); have GE313 := zM ((gB hg : w.heap.size ≤ gb313)); replace HB := zM (below_step bB hb); clear hb hbox hg) | ((with_reducible refine gate_dst (N := 2) rfl ?_); refine bx 2 #[.slice none 0 0, .int .i64 0, .int .i64 0, .int .u64 0, .int .u64 0] 122 ?_; intro gb314 hg w5 hbox hb; replace HO0_0 := zM (Kd.V_below (Kd.V_elderB (kV HO0_0.out) gb314 (Nat.le_of_eq hg.symm)) hb); have BK314 := zM (hbox); have GW314 := zM ((gB hg : w.heap.size ≤ gb314)); have GE314 := zM ((gB hg : w.heap.size ≤ gb314)); replace HB := zM (below_step bB hb); have NB313_314 := zM ((by rw [hg]; exact Nat.ne_of_lt (blk_lt (g := gb313) (o := .cells #[.slice A0_0 l0_0.length c0_0, .int .i64 a0_1, .int .i64 a0_2, .int .u64 a0_3, .int .u64 a0_4] 122 (0, 0)) (kB BK313.out)) : gb313 ≠ gb314)); have NB314_313 := zM ((by rw [hg]; exact Nat.ne_of_gt (blk_lt (g := gb313) (o := .cells #[.slice A0_0 l0_0.length c0_0, .int .i64 a0_1, .int .i64 a0_2, .int .u64 a0_3, .int .u64 a0_4] 122 (0, 0)) (kB BK313.out)) : gb314 ≠ gb313)); replace BK313 := zM (bK BK313 hb); clear hb hbox hg; have hnb6 := NB313_314.out; have hnc6 := NB314_313.out; obtain ⟨hcz7_0, hcz7_1, hcz7_2, hcz7_3, hcz7_4⟩ := h5 BK313; obtain ⟨hfz7_0, hfz7_1, hfz7_2, hfz7_3, hfz7_4⟩ := f5 BK313; have q8 : (1 : Int) ≤ ((l0_0.length : Int) : Int) := dA; obtain ⟨i08, hi08, _, hsz8, _⟩ := info_parts info106; have hroom8 : l0_0.length ≤ c0_0 := (Kd.V_reads' HO0_0.out).2.1; have hC8 : Kd.F k106 _ _ A0_0 l0_0.length l0_0 := (Kd.V_at (base := w.heap.size) HO0_0.out).2.2; have hcut8 := cut_from (P := Tryd.prog) 120 106 .i64 Tryd.underlying120 hi08 2 hsz8 A0_0 l0_0.length c0_0 1 (by omega) q8; have hr8 := Kd.F_cut (m := (1 : Int).toNat) (c := c0_0) hC8 (by omega) hroom8; obtain ⟨A8, hA8⟩ : ∃ Aq_, Aq_ = (if c0_0 = (1 : Int).toNat then A0_0 else (A0_0 : Option Addr).map (·.add ((1 : Int).toNat * 2))) := ⟨_, rfl⟩; obtain ⟨c8, hc8⟩ : ∃ cq_, cq_ = c0_0 - (1 : Int).toNat := ⟨_, rfl⟩; have hy8 : y315.length = l0_0.length - (1 : Int).toNat := (by rw [Ny315.out, List.length_drop] <;> omega); rw [show (l0_0).drop (1 : Int).toNat = y315 from Ny315.out.symm] at hr8; replace hr8 : Kd.F k106 _ _ A8 y315.length y315 := (by rw [hA8]; exact hr8); rw [← hy8, ← hA8, ← hc8] at hcut8; have HO319 := zM (show Kd.V k106 106 _ w.heap.size _ (.slice A8 y315.length c8) y315 from Kd.V_mk (by rw [hy8, hc8]; exact Nat.sub_le_sub_right hroom8 _) hr8); have HC319 := zM (show y315.length ≤ c8 from by rw [hy8, hc8]; exact Nat.sub_le_sub_right hroom8 _); clear hr8 hC8 hroom8 hi08 hsz8 hc8; have KY8 := zM hy8; have KA8 := zM hA8; clear hy8 hA8; replace q8 := eq_true q8; obtain ⟨hcz9_0, hcz9_1, hcz9_2, hcz9_3, hcz9_4⟩ := h5 BK314; obtain ⟨hfz9_0, hfz9_1, hfz9_2, hfz9_3, hfz9_4⟩ := f5 BK314))
   refine bodyPost_ret (results_cell_row rfl _ _ gb314 122 #[.slice A8 y315.length c8, .int .i64 (wrap64 (a0_1 - 1)), .int .i64 (wrap64 (a0_2 - 1)), .int .u64 a0_3, .int .u64 a0_4] (0, 0) _ rfl (by refine kU ?_; refine blk_put (cs := #[.slice A8 y315.length c8, .int .i64 (wrap64 (a0_1 - 1)), .int .i64 (wrap64 (a0_2 - 1)), .int .u64 a0_3, .int .u64 0]) ?_ 4 _ rfl; refine kU ?_; refine blk_put (cs := #[.slice A8 y315.length c8, .int .i64 (wrap64 (a0_1 - 1)), .int .i64 (wrap64 (a0_2 - 1)), .int .u64 0, .int .u64 0]) ?_ 3 _ rfl; refine kU ?_; refine blk_put (cs := #[.slice A8 y315.length c8, .int .i64 (wrap64 (a0_1 - 1)), .int .i64 0, .int .u64 0, .int .u64 0]) ?_ 2 _ rfl; refine kU ?_; refine blk_put (cs := #[.slice A8 y315.length c8, .int .i64 0, .int .i64 0, .int .u64 0, .int .u64 0]) ?_ 1 _ rfl; refine kU ?_; refine blk_put (cs := #[.slice none 0 0, .int .i64 0, .int .i64 0, .int .u64 0, .int .u64 0]) ?_ 0 _ rfl; refine kU ?_; refine blk_far ?_ NB314_313.out _; refine kU ?_; refine blk_far ?_ NB314_313.out _; refine kU ?_; refine blk_far ?_ NB314_313.out _; refine kU ?_; exact BK314.out) Tryd.underlying122 rfl (by kernel_rfl)) rfl ?_
   exact ⟨_, by first | rfl | (simp [errW_none, errW_some] <;> rfl) | (simp [*, errW_none, errW_some] <;> rfl), by refine vV ?_; exact Kd.V_mono (Kd.V_far (p := ⟨gb314, 4, none⟩) (Kd.V_far (p := ⟨gb314, 3, none⟩) (Kd.V_far (p := ⟨gb314, 2, none⟩) (Kd.V_far (p := ⟨gb314, 1, none⟩) (Kd.V_far (p := ⟨gb314, 0, none⟩) (Kd.V_far (p := ⟨gb313, 2, none⟩) (Kd.V_far (p := ⟨gb313, 1, none⟩) (Kd.V_far (p := ⟨gb313, 0, none⟩) (Kd.V_mono (Kd.V_mono HO319.out (fun k_ hk => (⟨hk, hk.1.2⟩ : _ ∧ k_ ≠ gb313))) (fun k_ hk => (⟨hk, hk.1.2⟩ : _ ∧ k_ ≠ gb314))) (fun _ hk => hk.1.2) (.slice A8 y315.length c8)) (fun _ hk => hk.1.2) (.int .i64 (wrap64 (a0_1 - 1)))) (fun _ hk => hk.1.2) (.int .i64 (wrap64 (a0_2 - 1)))) (fun _ hk => hk.2) (.slice A8 y315.length c8)) (fun _ hk => hk.2) (.int .i64 (wrap64 (a0_1 - 1)))) (fun _ hk => hk.2) (.int .i64 (wrap64 (a0_2 - 1)))) (fun _ hk => hk.2) (.int .u64 a0_3)) (fun _ hk => hk.2) (.int .u64 a0_4)) (fun _ hk => hk.1.1.1.1), bB⟩
  ·rw [if_neg c3] at H
   have c3b0 : decide (a0_1 < a0_2) = false := decide_eq_false c3
   clear c3
   simp only [Option.some.injEq, Prod.mk.injEq] at H
   obtain ⟨rfl, rfl, rfl, rfl, rfl⟩ := H
   go_enter Tryd.func103, Tryd.ntmps103
   go_wp2_with (first | ((with_reducible refine gate_dst (N := 1) rfl ?_); refine bx 1 #[.slice A0_0 l0_0.length c0_0, .int .i64 a0_1, .int .i64 a0_2, .int .u64 a0_3, .int .u64 a0_4] 122 ?_; intro gb313 hg w10 hbox hb; replace HO0_0 := zM (Kd.V_below (Kd.V_elderB (kV HO0_0.out) gb313 (Nat.le_of_eq hg.symm)) hb); have BK313 := zM (hbox); have GW313 := zM ((gB hg : w.heap.size ≤ gb313)); have GE313 := zM ((gB hg : w.heap.size ≤ gb313)); replace HB := zM (below_step bB hb); clear hb hbox hg) | ((with_reducible refine gate_dst (N := 2) rfl ?_); refine bx 2 #[.slice none 0 0, .int .i64 0, .int .i64 0, .int .u64 0, .int .u64 0] 122 ?_; intro gb314 hg w11 hbox hb; replace HO0_0 := zM (Kd.V_below (Kd.V_elderB (kV HO0_0.out) gb314 (Nat.le_of_eq hg.symm)) hb); have BK314 := zM (hbox); have GW314 := zM ((gB hg : w.heap.size ≤ gb314)); have GE314 := zM ((gB hg : w.heap.size ≤ gb314)); replace HB := zM (below_step bB hb); have NB313_314 := zM ((by rw [hg]; exact Nat.ne_of_lt (blk_lt (g := gb313) (o := .cells #[.slice A0_0 l0_0.length c0_0, .int .i64 a0_1, .int .i64 a0_2, .int .u64 a0_3, .int .u64 a0_4] 122 (0, 0)) (kB BK313.out)) : gb313 ≠ gb314)); have NB314_313 := zM ((by rw [hg]; exact Nat.ne_of_gt (blk_lt (g := gb313) (o := .cells #[.slice A0_0 l0_0.length c0_0, .int .i64 a0_1, .int .i64 a0_2, .int .u64 a0_3, .int .u64 a0_4] 122 (0, 0)) (kB BK313.out)) : gb314 ≠ gb313)); replace BK313 := zM (bK BK313 hb); clear hb hbox hg; have hnb12 := NB313_314.out; have hnc12 := NB314_313.out; obtain ⟨hcz13_0, hcz13_1, hcz13_2, hcz13_3, hcz13_4⟩ := h5 BK313; obtain ⟨hfz13_0, hfz13_1, hfz13_2, hfz13_3, hfz13_4⟩ := f5 BK313; have q14 : (1 : Int) ≤ ((l0_0.length : Int) : Int) := dA; obtain ⟨i014, hi014, _, hsz14, _⟩ := info_parts info106; have hroom14 : l0_0.length ≤ c0_0 := (Kd.V_reads' HO0_0.out).2.1; have hC14 : Kd.F k106 _ _ A0_0 l0_0.length l0_0 := (Kd.V_at (base := w.heap.size) HO0_0.out).2.2; have hcut14 := cut_from (P := Tryd.prog) 120 106 .i64 Tryd.underlying120 hi014 2 hsz14 A0_0 l0_0.length c0_0 1 (by omega) q14; have hr14 := Kd.F_cut (m := (1 : Int).toNat) (c := c0_0) hC14 (by omega) hroom14; obtain ⟨A14, hA14⟩ : ∃ Aq_, Aq_ = (if c0_0 = (1 : Int).toNat then A0_0 else (A0_0 : Option Addr).map (·.add ((1 : Int).toNat * 2))) := ⟨_, rfl⟩; obtain ⟨c14, hc14⟩ : ∃ cq_, cq_ = c0_0 - (1 : Int).toNat := ⟨_, rfl⟩; have hy14 : y315.length = l0_0.length - (1 : Int).toNat := (by rw [Ny315.out, List.length_drop] <;> omega); rw [show (l0_0).drop (1 : Int).toNat = y315 from Ny315.out.symm] at hr14; replace hr14 : Kd.F k106 _ _ A14 y315.length y315 := (by rw [hA14]; exact hr14); rw [← hy14, ← hA14, ← hc14] at hcut14; have HO319 := zM (show Kd.V k106 106 _ w.heap.size _ (.slice A14 y315.length c14) y315 from Kd.V_mk (by rw [hy14, hc14]; exact Nat.sub_le_sub_right hroom14 _) hr14); have HC319 := zM (show y315.length ≤ c14 from by rw [hy14, hc14]; exact Nat.sub_le_sub_right hroom14 _); clear hr14 hC14 hroom14 hi014 hsz14 hc14; have KY14 := zM hy14; have KA14 := zM hA14; clear hy14 hA14; replace q14 := eq_true q14; obtain ⟨hcz15_0, hcz15_1, hcz15_2, hcz15_3, hcz15_4⟩ := h5 BK314; obtain ⟨hfz15_0, hfz15_1, hfz15_2, hfz15_3, hfz15_4⟩ := f5 BK314))
   refine bodyPost_ret (results_cell_row rfl _ _ gb314 122 #[.slice A14 y315.length c14, .int .i64 a0_1, .int .i64 a0_2, .int .u64 a0_3, .int .u64 a0_4] (0, 0) _ rfl (by refine kU ?_; refine blk_put (cs := #[.slice A14 y315.length c14, .int .i64 a0_1, .int .i64 a0_2, .int .u64 a0_3, .int .u64 0]) ?_ 4 _ rfl; refine kU ?_; refine blk_put (cs := #[.slice A14 y315.length c14, .int .i64 a0_1, .int .i64 a0_2, .int .u64 0, .int .u64 0]) ?_ 3 _ rfl; refine kU ?_; refine blk_put (cs := #[.slice A14 y315.length c14, .int .i64 a0_1, .int .i64 0, .int .u64 0, .int .u64 0]) ?_ 2 _ rfl; refine kU ?_; refine blk_put (cs := #[.slice A14 y315.length c14, .int .i64 0, .int .i64 0, .int .u64 0, .int .u64 0]) ?_ 1 _ rfl; refine kU ?_; refine blk_put (cs := #[.slice none 0 0, .int .i64 0, .int .i64 0, .int .u64 0, .int .u64 0]) ?_ 0 _ rfl; refine kU ?_; refine blk_far ?_ NB314_313.out _; refine kU ?_; exact BK314.out) Tryd.underlying122 rfl (by kernel_rfl)) rfl ?_
   exact ⟨_, by first | rfl | (simp [errW_none, errW_some] <;> rfl) | (simp [*, errW_none, errW_some] <;> rfl), by refine vV ?_; exact Kd.V_mono (Kd.V_far (p := ⟨gb314, 4, none⟩) (Kd.V_far (p := ⟨gb314, 3, none⟩) (Kd.V_far (p := ⟨gb314, 2, none⟩) (Kd.V_far (p := ⟨gb314, 1, none⟩) (Kd.V_far (p := ⟨gb314, 0, none⟩) (Kd.V_far (p := ⟨gb313, 0, none⟩) (Kd.V_mono (Kd.V_mono HO319.out (fun k_ hk => (⟨hk, hk.1.2⟩ : _ ∧ k_ ≠ gb313))) (fun k_ hk => (⟨hk, hk.1.2⟩ : _ ∧ k_ ≠ gb314))) (fun _ hk => hk.1.2) (.slice A14 y315.length c14)) (fun _ hk => hk.2) (.slice A14 y315.length c14)) (fun _ hk => hk.2) (.int .i64 a0_1)) (fun _ hk => hk.2) (.int .i64 a0_2)) (fun _ hk => hk.2) (.int .u64 a0_3)) (fun _ hk => hk.2) (.int .u64 a0_4)) (fun _ hk => hk.1.1.1.1), bB⟩
 ·rw [if_neg c2] at H
  exact absurd H (by simp)
def proof_Nodes_Ephem.f (l0_0 : List (S106)) (a0_1 : Int) (a0_2 : Int) (a0_3 : Int) (a0_4 : Int) : Option (Int × Int × Int × Int) := some (a0_3, a0_4, a0_1, a0_2)
def proof_Nodes_Ephem.T1 : Bool × List (List Nat × List Nat) := (true, [([], []), ([0], [0]), ([], []), ([2], [2]), ([], []), ([4], [4]), ([1, 0, 1], [1]), ([3, 6, 0, 1, 2, 3, 6], [3]), ([5, 7, 0, 1, 2, 3, 4, 5, 6, 7], [5])])
def proof_Nodes_Ephem.B1 : List Nat := [0, 1, 0, 4, 0, 16, 3, 79, 255]
theorem proof_Nodes_Ephem.tab1 : rtab .any (opsOf Tryd.f104 1) = proof_Nodes_Ephem.T1 := by kernel_rfl
theorem proof_Nodes_Ephem.bits1 : waitsOk proof_Nodes_Ephem.T1.2 proof_Nodes_Ephem.B1 = true := by kernel_rfl
set_option maxHeartbeats 8000000 in
set_option maxRecDepth 100000 in
theorem proof_Nodes_Ephem.calls (A0_0 : Option Addr) (c0_0 : Nat) (l0_0 : List (S106)) (a0_1 : Int) (a0_2 : Int) (a0_3 : Int) (a0_4 : Int) (r1 : Int) (r2 : Int) (r3 : Int) (r4 : Int) (w : World) (hr0_0 : Kd.C k106 w A0_0 l0_0.length l0_0) (hc0_0 : l0_0.length ≤ c0_0) (h : proof_Nodes_Ephem.f l0_0 a0_1 a0_2 a0_3 a0_4 = some (r1, r2, r3, r4)) :
  Calls Tryd.prog 104 #[.agg #[.slice A0_0 l0_0.length c0_0, .int .i64 a0_1, .int .i64 a0_2, .int .u64 a0_3, .int .u64 a0_4]] w fun e w' => e = .returned (.tuple #[.agg #[.int .u64 r1, .int .u64 r2], .int .i64 r3, .int .i64 r4]) ∧ Below w.heap.size w w' := by
 have hu122 := Tryd.underlying122
 have hu106 := Tryd.underlying106
 have HR0_0 := zM hr0_0
 have HC0_0 := zM hc0_0
 clear hr0_0 hc0_0
 have HB := zM (Below.refl w.heap.size w)
 have H : (some (a0_3, a0_4, a0_1, a0_2)) = some (r1, r2, r3, r4) := h
 clear h
 simp only [Option.some.injEq, Prod.mk.injEq] at H
 obtain ⟨rfl, rfl, rfl, rfl⟩ := H
 go_enter Tryd.func104, Tryd.ntmps104
 try go_wp2_with (first | ((with_reducible refine gate_dst (N := 1) rfl ?_); refine bx 1 #[.slice A0_0 l0_0.length c0_0, .int .i64 a0_1, .int .i64 a0_2, .int .u64 a0_3, .int .u64 a0_4] 122 ?_; intro gb269 hg w2 hbox hb; have BK269 := zM (hbox); have GW269 := zM ((gB hg : w.heap.size ≤ gb269)); have GE269 := zM ((gB hg : w.heap.size ≤ gb269)); replace HB := zM (below_step bB hb); clear hb hbox hg) | ((with_reducible refine gate_dst (N := 2) rfl ?_); refine bx 2 #[.int .u64 0, .int .u64 0] 106 ?_; intro gb270 hg w3 hbox hb; have BK270 := zM (hbox); have GW270 := zM ((gB hg : w.heap.size ≤ gb270)); have GE270 := zM ((gB hg : w.heap.size ≤ gb270)); replace HB := zM (below_step bB hb); have NB269_270 := zM ((by rw [hg]; exact Nat.ne_of_lt (blk_lt (g := gb269) (o := .cells #[.slice A0_0 l0_0.length c0_0, .int .i64 a0_1, .int .i64 a0_2, .int .u64 a0_3, .int .u64 a0_4] 122 (0, 0)) (kB BK269.out)) : gb269 ≠ gb270)); have NB270_269 := zM ((by rw [hg]; exact Nat.ne_of_gt (blk_lt (g := gb269) (o := .cells #[.slice A0_0 l0_0.length c0_0, .int .i64 a0_1, .int .i64 a0_2, .int .u64 a0_3, .int .u64 a0_4] 122 (0, 0)) (kB BK269.out)) : gb270 ≠ gb269)); replace BK269 := zM (bK BK269 hb); clear hb hbox hg))
 replace BK269 := zM (blk_drew BK269.out)
 replace BK270 := zM (blk_drew BK270.out)
 replace HB := zM (below_drew1 HB.out)
 refine start_ (n := 9) (S := fun w' => C5 w' gb269 (.slice A0_0 l0_0.length c0_0) (.int .i64 a0_1) (.int .i64 a0_2) (.int .u64 a0_3) (.int .u64 a0_4)) (ds := []) #[ff,ff,ff,ff,ff,ff,ff,ff,ff] (by kernel_rfl) rfl rfl (h5 BK269) (fun hHeld => ?_); refine with_tabW proof_Nodes_Ephem.tab1 proof_Nodes_Ephem.bits1 (fun HT_ HW_ => ?_)
 generalize w3.drew = w4 at BK269 BK270 HB hHeld ⊢
 refine pA 0 (some 5) #[tt,ff,ff,ff,ff,ff,ff,ff,ff] HT_ ?_
 refine pA 2 (some 7) #[tt,ff,tt,ff,ff,ff,ff,ff,ff] HT_ ?_
 refine pA 4 (some 9) #[tt,ff,tt,ff,tt,ff,ff,ff,ff] HT_ ?_
 refine tA 1 (some 6) #[tt,tt,tt,ff,tt,ff,ff,ff,ff] rfl rfl HT_ HW_ hHeld (by rintro w' ⟨s0, s1, s2, s3, s4⟩; go_simp; with_reducible rfl) ?_
 refine tA 3 (some 8) #[tt,tt,tt,tt,tt,ff,ff,ff,ff] rfl rfl HT_ HW_ hHeld (by rintro w' ⟨s0, s1, s2, s3, s4⟩; go_simp; with_reducible rfl) ?_
 refine tA 5 (some 10) #[tt,tt,tt,tt,tt,tt,ff,ff,ff] rfl rfl HT_ HW_ hHeld (by rintro w' ⟨s0, s1, s2, s3, s4⟩; go_simp; with_reducible rfl) ?_
 refine one_ (i := 6) (N := none) #[tt,tt,tt,tt,tt,tt,tt,ff,ff] rfl rfl (one_of HT_.out (by kernel_rfl)) (by decide) (fun K hK => ?_)
 have hs5 : w4.cell? ⟨gb270, 0, none⟩ = some (.int .u64 0) := (blk_cell BK270.out 0).trans rfl
 have hfs5 := blk_frozen BK270.out 0
 have hns5_0 := NB269_270.out
 have hms5_0 := NB270_269.out
 have hs6 : w4.cell? ⟨gb270, 1, none⟩ = some (.int .u64 0) := (blk_cell BK270.out 1).trans rfl
 have hfs6 := blk_frozen BK270.out 1
 have hns6_0 := NB269_270.out
 have hms6_0 := NB270_269.out
 refine skip_ (w1 := ?_) (by rfl) rfl ?_ ?_
 rotate_left
 ·go_simp
  rfl
 refine hK.out _ _ ⟨((cell_far (p := ⟨gb270, _, none⟩) NB269_270.out _).trans (((cell_far (p := ⟨gb270, _, none⟩) NB269_270.out _).trans (hHeld.1)))), ((cell_far (p := ⟨gb270, _, none⟩) NB269_270.out _).trans (((cell_far (p := ⟨gb270, _, none⟩) NB269_270.out _).trans (hHeld.2.1)))), ((cell_far (p := ⟨gb270, _, none⟩) NB269_270.out _).trans (((cell_far (p := ⟨gb270, _, none⟩) NB269_270.out _).trans (hHeld.2.2.1)))), ((cell_far (p := ⟨gb270, _, none⟩) NB269_270.out _).trans (((cell_far (p := ⟨gb270, _, none⟩) NB269_270.out _).trans (hHeld.2.2.2.1)))), ((cell_far (p := ⟨gb270, _, none⟩) NB269_270.out _).trans (((cell_far (p := ⟨gb270, _, none⟩) NB269_270.out _).trans (hHeld.2.2.2.2))))⟩ (fun hHeld => ?_)
 clear hK K
 refine pA 7 (some 3) #[tt,tt,tt,tt,tt,tt,tt,tt,ff] HT_ ?_
 refine pA 8 (some 4) #[tt,tt,tt,tt,tt,tt,tt,tt,tt] HT_ ?_
 refine done_ (done_of HT_.out (by kernel_rfl)) ?_
 try go_wp2
 refine bodyPost_ret (results_ctt rfl _ _ gb270 106 #[.int .u64 a0_3, .int .u64 a0_4] (0, 0) _ rfl (by refine kU ?_; refine blk_put (cs := #[.int .u64 a0_3, .int .u64 0]) ?_ 1 _ rfl; refine kU ?_; refine blk_put (cs := #[.int .u64 0, .int .u64 0]) ?_ 0 _ rfl; refine kU ?_; exact BK270.out) Tryd.underlying106 rfl (by kernel_rfl)) rfl ?_
 exact ⟨by first | rfl | (simp [errW_none, errW_some] <;> rfl) | (simp [*, errW_none, errW_some] <;> rfl), bB⟩
def impl_fromNode.f (a0_0 : Int) (a0_1 : Int) : Option (Int × Int) := some (a0_0, a0_1)
set_option maxHeartbeats 8000000 in
set_option maxRecDepth 100000 in
theorem impl_fromNode.calls (a0_0 : Int) (a0_1 : Int) (r1 : Int) (r2 : Int) (w : World) (h : impl_fromNode.f a0_0 a0_1 = some (r1, r2)) :
  Calls Tryd.prog 56 #[.agg #[.int .u64 a0_0, .int .u64 a0_1]] w fun e w' => e = .returned (.agg #[.int .u64 r1, .int .u64 r2]) ∧ Below w.heap.size w w' := by
 have hu106 := Tryd.underlying106
 have hu54 := Tryd.underlying54
 have HB := zM (Below.refl w.heap.size w)
 have H : (some (a0_0, a0_1)) = some (r1, r2) := h
 clear h
 simp only [Option.some.injEq, Prod.mk.injEq] at H
 obtain ⟨rfl, rfl⟩ := H
 go_enter Tryd.func56, Tryd.ntmps56
 go_wp2_with (first | ((with_reducible refine gate_dst (N := 1) rfl ?_); refine bx 1 #[.int .u64 a0_0, .int .u64 a0_1] 106 ?_; intro gb267 hg w2 hbox hb; have BK267 := zM (hbox); have GW267 := zM ((gB hg : w.heap.size ≤ gb267)); have GE267 := zM ((gB hg : w.heap.size ≤ gb267)); replace HB := zM (below_step bB hb); clear hb hbox hg) | ((with_reducible refine gate_dst (N := 2) rfl ?_); refine bx 2 #[.int .u64 0, .int .u64 0] 54 ?_; intro gb268 hg w3 hbox hb; have BK268 := zM (hbox); have GW268 := zM ((gB hg : w.heap.size ≤ gb268)); have GE268 := zM ((gB hg : w.heap.size ≤ gb268)); replace HB := zM (below_step bB hb); have NB267_268 := zM ((by rw [hg]; exact Nat.ne_of_lt (blk_lt (g := gb267) (o := .cells #[.int .u64 a0_0, .int .u64 a0_1] 106 (0, 0)) (kB BK267.out)) : gb267 ≠ gb268)); have NB268_267 := zM ((by rw [hg]; exact Nat.ne_of_gt (blk_lt (g := gb267) (o := .cells #[.int .u64 a0_0, .int .u64 a0_1] 106 (0, 0)) (kB BK267.out)) : gb268 ≠ gb267)); replace BK267 := zM (bK BK267 hb); clear hb hbox hg; have hnb4 := NB267_268.out; have hnc4 := NB268_267.out; obtain ⟨hcz5_0, hcz5_1⟩ := h2 BK267; obtain ⟨hfz5_0, hfz5_1⟩ := f2 BK267; obtain ⟨hcz6_0, hcz6_1⟩ := h2 BK268; obtain ⟨hfz6_0, hfz6_1⟩ := f2 BK268))
 refine bodyPost_ret (results_cell_row rfl _ _ gb268 54 #[.int .u64 a0_0, .int .u64 a0_1] (0, 0) _ rfl (by refine kU ?_; refine blk_put (cs := #[.int .u64 a0_0, .int .u64 0]) ?_ 1 _ rfl; refine kU ?_; refine blk_put (cs := #[.int .u64 0, .int .u64 0]) ?_ 0 _ rfl; refine kU ?_; exact BK268.out) Tryd.underlying54 rfl (by kernel_rfl)) rfl ?_
 exact ⟨by first | rfl | (simp [errW_none, errW_some] <;> rfl) | (simp [*, errW_none, errW_some] <;> rfl), bB⟩
def impl_fromNodes.l0 : Nat → List (S54) → List (S106) → Int → Int → Option ((List (S54)))
 | 0, _, _, _, _ => none
 | k + 1, x3, x6, x7, x8 => if x8 < x7 then (if 0 ≤ x8 then (if x8 < (x6.length : Int) then ((impl_fromNode.f ((rd_T106 x6 x8).f0) ((rd_T106 x6 x8).f1)).bind fun bt273 => (if x3.length < 8796093022208 then (impl_fromNodes.l0 k (x3 ++ [(⟨bt273.1, bt273.2⟩ : S54)]) x6 x7 (wrap64 (x8 + 1))) else (none))) else (none)) else (none)) else (some x3)
def impl_fromNodes.f (k : Nat) (l0 : List (S106)) : Option ((List (S54))) := impl_fromNodes.l0 k ([] : List (S54)) l0 (l0.length : Int) 0
set_option maxHeartbeats 8000000 in
set_option maxRecDepth 100000 in
theorem impl_fromNodes.calls (k : Nat) (A0 : Option Addr) (c0 : Nat) (l0 : List (S106)) (r : List (S54)) (w : World) (hr0 : Kd.C k106 w A0 l0.length l0) (hc0 : l0.length ≤ c0) (h : impl_fromNodes.f k l0 = some r) :
  Calls Tryd.prog 105 #[.slice A0 l0.length c0] w fun e w' => ∃ v0_ : Value, e = .returned (v0_) ∧ Kd.R k54 54 w' w.heap.size (fun _ => True) v0_ r ∧ Below w.heap.size w w' := by
 have hu106 := Tryd.underlying106
 have HR0 := zM hr0
 have HC0 := zM hc0
 clear hr0 hc0
 have HB := zM (Below.refl w.heap.size w)
 have H : (impl_fromNodes.l0 k ([] : List (S54)) l0 (l0.length : Int) 0) = some r := h
 clear h
 have H' := zM H
 clear H
 go_enter Tryd.func105, Tryd.ntmps105
 go_wp2
 go_loopg [3, 8] k (fun kq v3 v8 w' => ∃ (x3_1 : List (S54)) (x8_1 : Int), v8 = .int .i64 x8_1 ∧ Aside0 (impl_fromNodes.l0 kq x3_1 l0 (l0.length : Int) x8_1 = some r) ∧ Aside0 (kq ≤ k) ∧ Aside0 (Kd.R k54 54 w' w.heap.size (fun _ => True) v3 x3_1) ∧ Aside0 (Below w.heap.size w w'))
 case atStart => exact ⟨(([] : List (S54))), (0), sR, H', ⟨Nat.le_refl _⟩, ⟨by first | exact Kd.R_nil _ _ _ _ _ | exact Kd.N_nil _ _ _ _ _ | exact Kd.V_nil _ _ _ _ _ | exact Kd.Q_nil _ _ _ _ _ | exact Kd.S_nil _ _ _ _ _⟩, ⟨bB⟩⟩
 case round =>
  clear H'
  try clear c1
  obtain ⟨x3_1, x8_1, rfl, HA, HK1, HO_3, HB⟩ := hrel
  cases gk with
  | zero => exact absurd HA.out (by simp [impl_fromNodes.l0])
  | succ k1 =>
   have H := HA.out
   clear HA
   simp only [impl_fromNodes.l0] at H
   by_cases c2 : x8_1 < (l0.length : Int)
   ·rw [if_pos c2] at H
    have c2b0 : decide (x8_1 < (l0.length : Int)) = true := decide_eq_true c2
    clear c2
    by_cases c3 : 0 ≤ x8_1
    ·rw [if_pos c3] at H
     have c3b0 : decide (0 ≤ x8_1) = true := decide_eq_true c3
     clear c3
     by_cases c4 : x8_1 < (l0.length : Int)
     ·rw [if_pos c4] at H
      have c4b0 : decide (x8_1 < (l0.length : Int)) = true := decide_eq_true c4
      clear c4
      replace H := Option.bind_eq_some_iff.mp H
      obtain ⟨⟨t273, t274⟩, A50, H⟩ := H
      (try dsimp only at H)
      have A5 := zM A50
      clear A50
      by_cases c6 : x3_1.length < 8796093022208
      ·rw [if_pos c6] at H
       have LMc6 := zM c6
       clear c6
       obtain ⟨y275, hy275⟩ : ∃ y_ : List (S54), y_ = (x3_1 ++ [(⟨t273, t274⟩ : S54)]) := ⟨_, rfl⟩
       replace H : (impl_fromNodes.l0 k1 y275 l0 (l0.length : Int) (wrap64 (x8_1 + 1))) = some r := by first | (rw [hy275]; with_reducible exact H) | (have H := (Option.bind_some _ _).symm.trans H; first | (rw [hy275]; with_reducible exact H) | with_reducible exact H) | (rw [hy275]; exact H) | exact H
       have Ny275 := zM hy275
       clear hy275
       have H' := zM H
       clear H
       have p271 : 0 ≤ (x8_1 : Int) := dA
       have q271 : x8_1 < (l0.length : Int) := dA
       obtain ⟨ad271, e271, hx271_0, hx271_1⟩ := at_T106 HR0.out x8_1 p271 q271
       cases e271
       replace hx271_0 := (HB.out.cell (World.block_lt_of_cell? w _ hx271_0)).trans hx271_0
       replace hx271_1 := (HB.out.cell (World.block_lt_of_cell? w _ hx271_1)).trans hx271_1
       replace p271 := eq_true p271
       replace q271 := eq_true q271
       go_wp2_with (first | ((with_reducible refine gate_dst (N := 5) rfl ?_); refine bx 5 #[.int .u64 0, .int .u64 0] 106 ?_; intro gb272 hg w7 hbox hb; replace HO_3 := zM (Kd.R_below (kR HO_3.out) hb); have BK272 := zM (hbox); have GW272 := zM ((gB hg : w.heap.size ≤ gb272)); have GE272 := zM ((gB hg : w.heap.size ≤ gb272)); replace HB := zM (below_step bB hb); clear hb hbox hg; obtain ⟨hcz8_0, hcz8_1⟩ := h2 BK272; obtain ⟨hfz8_0, hfz8_1⟩ := f2 BK272) | ((with_reducible refine gate_callee (f := 56) rfl ?_); refine goesL_ (some 14) rfl rfl Tryd.func56 (by kernel_rfl) rfl #[.agg #[.int .u64 ((rd_T106 l0 x8_1).f0), .int .u64 ((rd_T106 l0 x8_1).f1)]] rfl aV ?_; (with_reducible refine (impl_fromNode.calls ((rd_T106 l0 x8_1).f0) ((rd_T106 l0 x8_1).f1) t273 t274 _ A5.out).mono ?_); rintro e w9 ⟨rfl, hb⟩; refine ⟨_, rfl, ?_⟩; replace HO_3 := zM (Kd.R_below (by refine vR ?_; exact (Kd.R_mono (Kd.R_far (p := ⟨gb272, 1, none⟩) (Kd.R_far (p := ⟨gb272, 0, none⟩) (Kd.R_types HO_3.out BK272.out (by decide)) (fun _ hk => hk.2) (.int .u64 ((rd_T106 l0 x8_1).f0))) (fun _ hk => hk.2) (.int .u64 ((rd_T106 l0 x8_1).f1))) (fun _ h_ => h_.1))) hb); replace BK272 := zM (blk_below (g := gb272) (o := .cells #[.int .u64 ((rd_T106 l0 x8_1).f0), .int .u64 ((rd_T106 l0 x8_1).f1)] 106 (0, 0)) (by refine kU ?_; refine blk_put (cs := #[.int .u64 ((rd_T106 l0 x8_1).f0), .int .u64 0]) ?_ 1 _ rfl; refine kU ?_; refine blk_put (cs := #[.int .u64 0, .int .u64 0]) ?_ 0 _ rfl; refine kU ?_; exact BK272.out) hb); replace HB := zM (below_step bB hb)) | ((with_reducible refine gate_builtin (b := .append) (xs := #[.tmp 12, .tmp 15]) rfl ?_); at_builtin; refine Kd.R_append k54 (w0 := w) w.heap.size rfl (.tmp 12) (.tmp 15) 66 54 (.agg #[(.int .u64 0), (.int .u64 0)]) 16 rfl Tryd.underlying66 info54 rfl (by decide) (by omega) u3 x3_1 (⟨t273, t274⟩ : S54) [.int .u64 t273, .int .u64 t274] (fun _ => True) (fun _ => False) rfl rfl ?aP (fun _ hk => hk.elim) ?aF ?aO ?aB ?aS ?aL ?_; (case aP => exact k54_mkM _ _ _ (⟨t273, t274⟩ : S54)); (case aB => exact bB); (case aF => exact (fun _ _ => trivial)); (case aO => exact (kR HO_3.out)); (case aS => exact (below_size bB)); (case aL => have := LMc6.out; omega); intro v276 w10 ho hb hg hat; rw [← Ny275.out] at ho; replace BK272 := zM (blk_grown (g := gb272) (o := .cells #[.int .u64 ((rd_T106 l0 x8_1).f0), .int .u64 ((rd_T106 l0 x8_1).f1)] 106 (0, 0)) (kB BK272.out) hg (Kd.R_ne HO_3.out BK272.out (by decide))); replace HB := zM (hb); have HO277 := zM (ho); clear HO_3; clear ho hb hg hat))
       go_roundg k1
       case measure => have := HK1.out; omega
       case rel => exact ⟨(y275), (wrap64 (x8_1 + 1)), sR, H', ⟨by have := HK1.out; omega⟩, ⟨kR HO277.out⟩, ⟨bB⟩⟩
      ·rw [if_neg c6] at H
       exact absurd H (by simp)
     ·rw [if_neg c4] at H
      exact absurd H (by simp)
    ·rw [if_neg c3] at H
     exact absurd H (by simp)
   ·rw [if_neg c2] at H
    have c2b0 : decide (x8_1 < (l0.length : Int)) = false := decide_eq_false c2
    clear c2
    obtain rfl := Option.some.inj H
    go_wp2
    go_ret
    exact ⟨_, by first | rfl | (simp [errW_none, errW_some] <;> rfl) | (simp [*, errW_none, errW_some] <;> rfl), by refine vR ?_; exact HO_3.out, bB⟩
def proof_Inclusion.f (k : Nat) (a0 : Int) (a1 : Int) : Option ((List (S106)) × Int × Int × Int × Int × Option Int) := if a0 ≥ a1 then none else ((proof_nodes.f k a0 0 a1).bind fun bt322 => ((proof_Nodes_skipFirst.f bt322.1 bt322.2.1 bt322.2.2.1 bt322.2.2.2.1 bt322.2.2.2.2).bind fun bt329 => (some (bt329.1, bt329.2.1, bt329.2.2.1, bt329.2.2.2.1, bt329.2.2.2.2, none))))
set_option maxHeartbeats 8000000 in
set_option maxRecDepth 100000 in
theorem proof_Inclusion.calls (k : Nat) (a0 : Int) (a1 : Int) (r1 : List (S106)) (r2 : Int) (r3 : Int) (r4 : Int) (r5 : Int) (r6 : Option Int) (w : World) (hT : TabOK w) (h : proof_Inclusion.f k a0 a1 = some (r1, r2, r3, r4, r5, r6)) :
  Calls Tryd.prog 106 #[.int .u64 a0, .int .u64 a1] w fun e w' => ∃ (T_ : Int → TypeId) (X_ : Int → Value), ∃ v0_ : Value, e = .returned (.tuple #[.agg #[v0_, .int .i64 r2, .int .i64 r3, .int .u64 r4, .int .u64 r5], errW T_ X_ r6]) ∧ Kd.V k106 106 w' w.heap.size (fun k_ => (w.heap.size ≤ k_)) v0_ r1 ∧ Below w.heap.size w w' := by
 have hu122 := Tryd.underlying122
 have HT := zM hT
 clear hT
 have HB := zM (Below.refl w.heap.size w)
 have H : (if a0 ≥ a1 then none else ((proof_nodes.f k a0 0 a1).bind fun bt322 => ((proof_Nodes_skipFirst.f bt322.1 bt322.2.1 bt322.2.2.1 bt322.2.2.2.1 bt322.2.2.2.2).bind fun bt329 => (some (bt329.1, bt329.2.1, bt329.2.2.1, bt329.2.2.2.1, bt329.2.2.2.2, none))))) = some (r1, r2, r3, r4, r5, r6) := h
 clear h
 by_cases c3 : a0 ≥ a1
 ·rw [if_pos c3] at H
  cases H
 ·rw [if_neg c3] at H
  have c3b0 : decide (a1 ≤ a0) = false := decide_eq_false c3
  clear c3
  replace H := Option.bind_eq_some_iff.mp H
  obtain ⟨⟨t322, t325, t326, t327, t328⟩, A80, H⟩ := H
  (try dsimp only at H)
  have A8 := zM A80
  clear A80
  replace H := Option.bind_eq_some_iff.mp H
  obtain ⟨⟨t329, t332, t333, t334, t335⟩, A90, H⟩ := H
  (try dsimp only at H)
  have A9 := zM A90
  clear A90
  simp only [Option.some.injEq, Prod.mk.injEq] at H
  obtain ⟨rfl, rfl, rfl, rfl, rfl, rfl⟩ := H
  go_enter Tryd.func106, Tryd.ntmps106
  go_wp2_with (first | ((with_reducible refine gate_dst (N := 4) rfl ?_); refine bx 4 #[.slice none 0 0, .int .i64 0, .int .i64 0, .int .u64 0, .int .u64 0] 122 ?_; intro gb320 hg w10 hbox hb; have BK320 := zM (hbox); have GW320 := zM ((gB hg : w.heap.size ≤ gb320)); have GE320 := zM ((gB hg : w.heap.size ≤ gb320)); replace HB := zM (below_step bB hb); clear hb hbox hg) | ((with_reducible refine gate_callee (f := 102) rfl ?_); refine goesL_ (some 13) rfl rfl Tryd.func102 (by kernel_rfl) rfl #[.int .u64 a0, .int .u64 0, .int .u64 a1] rfl aV ?_; (with_reducible refine (proof_nodes.calls k a0 0 a1 t322 t325 t326 t327 t328 _ ?side1 A8.out).mono ?_); (case side1 => exact TabOK.below HT.out bB); rintro e w11 ⟨v323, rfl, ho0, hb⟩; refine ⟨_, rfl, ?_⟩; have HO324 := zM (Kd.R_lower (Kd.R_newM (M := fun k_ => (w.heap.size ≤ k_)) ho0 (below_size bB) (fun k_ h_ => h_)) (below_size bB)); replace BK320 := zM (bK BK320 hb); replace HB := zM (below_step bB hb); obtain ⟨Ao12, co12, eo12⟩ := Kd.R_slice HO324.out; subst eo12) | ((with_reducible refine gate_callee (f := 103) rfl ?_); refine goesL_ (some 14) rfl rfl Tryd.func103 (by kernel_rfl) rfl #[.agg #[.slice Ao12 t322.length co12, .int .i64 t325, .int .i64 t326, .int .u64 t327, .int .u64 t328]] rfl aV ?_; (with_reducible refine (proof_Nodes_skipFirst.calls (fun k_ => some k_ = (.slice Ao12 t322.length co12 : Value).ownBlock) _ _ t322 t325 t326 t327 t328 t329 t332 t333 t334 t335 _ ?side1 A9.out).mono ?_); (case side1 => first | exact Kd.R_V (Kd.R_tight rfl (Kd.R_types (HO324.out) BK320.out (by decide))) | exact Kd.V_mono Kd.R_V (Kd.R_tight rfl (Kd.R_types (HO324.out) BK320.out (by decide))) (fun k_ h_ => by simp only [and_assoc] at h_ ⊢; exact h_)); rintro e w13 ⟨v330, rfl, ho0, hb⟩; refine ⟨_, rfl, ?_⟩; have HO331 := zM (Kd.V_lower (Kd.V_mono (ok' := fun k_ => (w.heap.size ≤ k_) ∧ k_ ≠ gb320) ho0 (fun k_ hk_ => ⟨Or.elim hk_ (fun hs_ => ((Kd.R_types (HO324.out) BK320.out (by decide)).1 k_ hs_.symm).1.1) (fun hn_ => (Nat.le_trans (below_size bB) hn_)), Or.elim hk_ (fun hs_ => ((Kd.R_types (HO324.out) BK320.out (by decide)).1 k_ hs_.symm).2) (fun hn_ => (Kd.freshB (g := gb320) (o := .cells #[.slice none 0 0, .int .i64 0, .int .i64 0, .int .u64 0, .int .u64 0] 122 (0, 0)) (kB BK320.out) k_ hn_))⟩)) (below_size bB)); replace HO324 := zM (Kd.R_below (kR HO324.out) hb); replace BK320 := zM (bK BK320 hb); replace HB := zM (below_step bB hb); obtain ⟨Ao14, co14, eo14⟩ := Kd.V_slice HO331.out; subst eo14; obtain ⟨hcz15_0, hcz15_1, hcz15_2, hcz15_3, hcz15_4⟩ := h5 BK320; obtain ⟨hfz15_0, hfz15_1, hfz15_2, hfz15_3, hfz15_4⟩ := f5 BK320))
  refine bodyPost_ret (results_ct rfl _ _ gb320 122 #[.slice Ao14 t329.length co14, .int .i64 t332, .int .i64 t333, .int .u64 t334, .int .u64 t335] (0, 0) _ rfl (by refine kU ?_; refine blk_put (cs := #[.slice Ao14 t329.length co14, .int .i64 t332, .int .i64 t333, .int .u64 t334, .int .u64 0]) ?_ 4 _ rfl; refine kU ?_; refine blk_put (cs := #[.slice Ao14 t329.length co14, .int .i64 t332, .int .i64 t333, .int .u64 0, .int .u64 0]) ?_ 3 _ rfl; refine kU ?_; refine blk_put (cs := #[.slice Ao14 t329.length co14, .int .i64 t332, .int .i64 0, .int .u64 0, .int .u64 0]) ?_ 2 _ rfl; refine kU ?_; refine blk_put (cs := #[.slice Ao14 t329.length co14, .int .i64 0, .int .i64 0, .int .u64 0, .int .u64 0]) ?_ 1 _ rfl; refine kU ?_; refine blk_put (cs := #[.slice none 0 0, .int .i64 0, .int .i64 0, .int .u64 0, .int .u64 0]) ?_ 0 _ rfl; refine kU ?_; exact BK320.out) Tryd.underlying122 rfl (by kernel_rfl)) rfl ?_
  exact ⟨(fun _ => 0), (fun _ => .nilIface), _, by first | rfl | (simp [errW_none, errW_some] <;> rfl) | (simp [*, errW_none, errW_some] <;> rfl), by refine vV ?_; exact Kd.V_mono (Kd.V_far (p := ⟨gb320, 4, none⟩) (Kd.V_far (p := ⟨gb320, 3, none⟩) (Kd.V_far (p := ⟨gb320, 2, none⟩) (Kd.V_far (p := ⟨gb320, 1, none⟩) (Kd.V_far (p := ⟨gb320, 0, none⟩) (Kd.V_mono HO331.out (fun k_ hk => (⟨hk, hk.2⟩ : _ ∧ k_ ≠ gb320))) (fun _ hk => hk.2) (.slice Ao14 t329.length co14)) (fun _ hk => hk.2) (.int .i64 t332)) (fun _ hk => hk.2) (.int .i64 t333)) (fun _ hk => hk.2) (.int .u64 t334)) (fun _ hk => hk.2) (.int .u64 t335)) (fun _ hk => hk.1.1), bB⟩
def impl_texts.l0 : Nat → List (List Int) → List (List Int) → Int → Int → Option ((List (List Int)))
 | 0, _, _, _, _ => none
 | k + 1, x3, x6, x7, x8 => if x8 < x7 then (if 0 ≤ x8 then (if x8 < (x6.length : Int) then ((some (([] : List Int) : List Int)).bind fun y105 => (if y105.length + (rd_L1 x6 x8).length < 140737488355328 then (if x3.length < 5864062014805 then (impl_texts.l0 k (x3 ++ [(y105 ++ (rd_L1 x6 x8))]) x6 x7 (wrap64 (x8 + 1))) else (none)) else (none))) else (none)) else (none)) else (some x3)
def impl_texts.f (k : Nat) (l0 : List (List Int)) : Option ((List (List Int))) := impl_texts.l0 k ([] : List (List Int)) l0 (l0.length : Int) 0
set_option maxHeartbeats 8000000 in
set_option maxRecDepth 100000 in
theorem impl_texts.calls (k : Nat) (A0 : Option Addr) (c0 : Nat) (l0 : List (List Int)) (r : List (List Int)) (w : World) (hr0 : Kd.C (Kd.slice 5 (Kd.int .u8)) w A0 l0.length l0) (hc0 : l0.length ≤ c0) (h : impl_texts.f k l0 = some r) :
  Calls Tryd.prog 46 #[.slice A0 l0.length c0] w fun e w' => ∃ v0_ : Value, e = .returned (v0_) ∧ Kd.S (Kd.slice 5 (Kd.int .u8)) 27 w' w.heap.size (fun _ => True) v0_ r ∧ Below w.heap.size w w' := by
 have HR0 := zM hr0
 have HC0 := zM hc0
 clear hr0 hc0
 have HB := zM (Below.refl w.heap.size w)
 have H : (impl_texts.l0 k ([] : List (List Int)) l0 (l0.length : Int) 0) = some r := h
 clear h
 have H' := zM H
 clear H
 go_enter Tryd.func46, Tryd.ntmps46
 go_wp2
 go_loopg [3, 8] k (fun kq v3 v8 w' => ∃ (x3_1 : List (List Int)) (x8_1 : Int), v8 = .int .i64 x8_1 ∧ Aside0 (impl_texts.l0 kq x3_1 l0 (l0.length : Int) x8_1 = some r) ∧ Aside0 (kq ≤ k) ∧ Aside0 (Kd.S (Kd.slice 5 (Kd.int .u8)) 27 w' w.heap.size (fun _ => True) v3 x3_1) ∧ Aside0 (Below w.heap.size w w'))
 case atStart => exact ⟨(([] : List (List Int))), (0), sR, H', ⟨Nat.le_refl _⟩, ⟨by first | exact Kd.S_nil _ _ _ _ _ | exact Kd.N_nil _ _ _ _ _ | exact Kd.V_nil _ _ _ _ _ | exact Kd.Q_nil _ _ _ _ _ | exact Kd.R_nil _ _ _ _ _⟩, ⟨bB⟩⟩
 case round =>
  clear H'
  obtain ⟨x3_1, x8_1, rfl, HA, HK1, HO_3, HB⟩ := hrel
  cases gk with
  | zero => exact absurd HA.out (by simp [impl_texts.l0])
  | succ k1 =>
   have H := HA.out
   clear HA
   simp only [impl_texts.l0] at H
   by_cases c2 : x8_1 < (l0.length : Int)
   ·rw [if_pos c2] at H
    have c2b0 : decide (x8_1 < (l0.length : Int)) = true := decide_eq_true c2
    clear c2
    by_cases c3 : 0 ≤ x8_1
    ·rw [if_pos c3] at H
     have c3b0 : decide (0 ≤ x8_1) = true := decide_eq_true c3
     clear c3
     by_cases c4 : x8_1 < (l0.length : Int)
     ·rw [if_pos c4] at H
      have c4b0 : decide (x8_1 < (l0.length : Int)) = true := decide_eq_true c4
      clear c4
      obtain ⟨y105, hy105⟩ : ∃ y_ : List Int, y_ = (([] : List Int)) := ⟨_, rfl⟩
      replace H : (if y105.length + (rd_L1 l0 x8_1).length < 140737488355328 then (if x3_1.length < 5864062014805 then (impl_texts.l0 k1 (x3_1 ++ [(y105 ++ (rd_L1 l0 x8_1))]) l0 (l0.length : Int) (wrap64 (x8_1 + 1))) else (none)) else (none)) = some r := by first | (rw [hy105]; with_reducible exact H) | (have H := (Option.bind_some _ _).symm.trans H; first | (rw [hy105]; with_reducible exact H) | with_reducible exact H) | (rw [hy105]; exact H) | exact H
      have Ny105 := zM hy105
      clear hy105
      by_cases c5 : y105.length + (rd_L1 l0 x8_1).length < 140737488355328
      ·rw [if_pos c5] at H
       have LMc5 := zM c5
       clear c5
       obtain ⟨y108, hy108⟩ : ∃ y_ : List Int, y_ = (y105 ++ (rd_L1 l0 x8_1)) := ⟨_, rfl⟩
       replace H : (if x3_1.length < 5864062014805 then (impl_texts.l0 k1 (x3_1 ++ [y108]) l0 (l0.length : Int) (wrap64 (x8_1 + 1))) else (none)) = some r := by first | (rw [hy108]; with_reducible exact H) | (have H := (Option.bind_some _ _).symm.trans H; first | (rw [hy108]; with_reducible exact H) | with_reducible exact H) | (rw [hy108]; exact H) | exact H
       have Ny108 := zM hy108
       clear hy108
       by_cases c6 : x3_1.length < 5864062014805
       ·rw [if_pos c6] at H
        have LMc6 := zM c6
        clear c6
        obtain ⟨y111, hy111⟩ : ∃ y_ : List (List Int), y_ = (x3_1 ++ [y108]) := ⟨_, rfl⟩
        replace H : (impl_texts.l0 k1 y111 l0 (l0.length : Int) (wrap64 (x8_1 + 1))) = some r := by first | (rw [hy111]; with_reducible exact H) | (have H := (Option.bind_some _ _).symm.trans H; first | (rw [hy111]; with_reducible exact H) | with_reducible exact H) | (rw [hy111]; exact H) | exact H
        have Ny111 := zM hy111
        clear hy111
        have H' := zM H
        clear H
        have p104 : 0 ≤ (x8_1 : Int) := dA
        have q104 : x8_1 < (l0.length : Int) := dA
        obtain ⟨ad104, A104_0, c104_0, e104, hx104_0, hl104_0, hi104_0⟩ := at_L1 HR0.out x8_1 p104 q104
        cases e104
        replace hx104_0 := (HB.out.cell (World.block_lt_of_cell? w _ hx104_0)).trans hx104_0
        have HR104_0 := zM hi104_0
        have HC104_0 := zM hl104_0
        clear hi104_0 hl104_0
        replace p104 := eq_true p104
        replace q104 := eq_true q104
        go_wp2_with (first | ((with_reducible refine gate_dst (N := 13) rfl ?_); refine Kd.R_lit (Kd.int .u8) _ 5 ?hg (N := 13) ?hd (xs := ([] : List Int)) (inner := []) (ok := fun _ => True) (okp := fun _ => True) ?hr ?hp (fun _ hk => hk) trivial (Below.refl _ _) (Nat.le_refl _) (by simp) ?_; (case hd => rfl); (case hg => rfl); (case hr => first | (go_simp; done) | (go_simp; rfl)); (case hp => exact (Reps.none _ _)); intro v106 w7 ho8 hb hg_ hnew_; clear hg_ hnew_; (first | rw [← Ny105.out] at ho8 | (simp only [Int.reduceToNat] at ho8; rw [← Ny105.out] at ho8)); replace HO_3 := zM (Kd.S_elder' (by refine vS ?_; exact HO_3.out) (Kd.R_base ho8) hb); have HO107 := zM (Kd.R_lower ho8 (below_size bB)); replace HB := zM (below_step bB hb); clear hb ho8) | ((with_reducible refine gate_builtin (b := .append) (xs := #[.tmp 13, .tmp 14]) rfl ?_); at_builtin; refine Kd.R_append_rows (Kd.int .u8) (w0 := w) w.heap.size rfl (.tmp 13) (.tmp 14) 27 5 (.int .u8 0) 1 rfl Tryd.underlying27 info5 rfl (by decide) (by omega) v106 y105 (rd_L1 l0 x8_1) _ _ _ (fun _ => True) (fun _ => False) rfl rfl ?aO ?aR (fun _ _ h => h) (fun _ h => h.elim) ?aF ?aB ?aS ?aL ?_; (case aR => repeat (first | exact (Kd.C_below HR104_0.out HB.out) | (with_reducible refine Kd.C_alloc ?_ _) | (with_reducible refine Kd.C_drewN ?_ _) | (with_reducible refine Kd.C_drew ?_))); (case aB => exact bB); (case aF => exact (fun _ _ => trivial)); (case aO => exact (kR HO107.out)); (case aS => exact (below_size bB)); (case aL => have := LMc5.out; omega); intro v109 w9 ho hb hg hat; rw [← Ny108.out] at ho; replace HO_3 := zM (Kd.S_after (ok := (fun _ => True)) (by refine vS ?_; exact HO_3.out) hg hat); replace HB := zM (hb); have HO110 := zM (ho); clear HO107; clear ho hb hg hat; obtain ⟨Ao11, co11, eo11⟩ := Kd.R_slice HO110.out; subst eo11) | ((with_reducible refine gate_builtin (b := .append) (xs := #[.tmp 12, .tmp 16]) rfl ?_); at_builtin; refine Kd.S_append (Kd.slice 5 (Kd.int .u8)) (w0 := w) w.heap.size rfl (.tmp 12) (.tmp 16) 25 27 (.slice none 0 0) 24 rfl Tryd.underlying25 info27 rfl (by decide) (by omega) u3 x3_1 y108 [.slice Ao11 y108.length co11] (fun _ => True) (fun k_ => some k_ = (.slice Ao11 y108.length co11 : Value).ownBlock) rfl rfl ?aP (fun k_ hk_ => ((Kd.R_mono (ok' := fun k_ => ((fun _ => True)) k_ ∧ some k_ ≠ (u3 : Value).ownBlock) (Kd.R_apart' (HO110.out) (Kd.S_typed HO_3.out) (by decide)) (fun k_ hk => ⟨trivial, hk.2⟩))).1 k_ hk_.symm) ?aF ?aO ?aB ?aS ?aL ?_; (case aP => exact Kd.M_row (Kd.R_mono (Kd.R_tight rfl (Kd.R_mono (ok' := fun k_ => ((fun _ => True)) k_ ∧ some k_ ≠ (u3 : Value).ownBlock) (Kd.R_apart' (HO110.out) (Kd.S_typed HO_3.out) (by decide)) (fun k_ hk => ⟨trivial, hk.2⟩))) (fun _ h_ => h_))); (case aB => exact bB); (case aF => exact (fun _ _ => trivial)); (case aO => exact (by refine vS ?_; exact Kd.S_mono HO_3.out (fun k_ hk => ⟨trivial, fun e_ => hk.2 e_⟩))); (case aS => exact (below_size bB)); (case aL => have := LMc6.out; omega); intro v112 w10 ho hb hg hat; rw [← Ny111.out] at ho; replace HB := zM (hb); have HO113 := zM (ho); clear HO_3 HO110; clear ho hb hg hat))
        go_roundg k1
        case measure => have := HK1.out; omega
        case rel => exact ⟨(y111), (wrap64 (x8_1 + 1)), sR, H', ⟨by have := HK1.out; omega⟩, ⟨by refine vS ?_; exact HO113.out⟩, ⟨bB⟩⟩
       ·rw [if_neg c6] at H
        exact absurd H (by simp)
      ·rw [if_neg c5] at H
       exact absurd H (by simp)
     ·rw [if_neg c4] at H
      exact absurd H (by simp)
    ·rw [if_neg c3] at H
     exact absurd H (by simp)
   ·rw [if_neg c2] at H
    have c2b0 : decide (x8_1 < (l0.length : Int)) = false := decide_eq_false c2
    clear c2
    obtain rfl := Option.some.inj H
    go_wp2
    go_ret
    exact ⟨_, by first | rfl | (simp [errW_none, errW_some] <;> rfl) | (simp [*, errW_none, errW_some] <;> rfl), by refine vS ?_; exact HO_3.out, bB⟩
def RgB (g : Nat) (fv : Value) (b e : Int) (A : Option Addr) (n c : Nat) (w : World) : Prop := w.heap[g]? = some (.cells #[fv, .int .u64 b, .int .u64 e, .slice A n c] 157 (0, 0))
set_option maxHeartbeats 8000000 in
set_option maxRecDepth 100000 in
theorem compact_NewRange.good (fp : Addr) (b e : Int) (A : Option Addr) (n c : Nat) (w : World) (hbe : b ≤ e) (hs : compact_RangeSize.f b e = some (n : Int)) :
  Calls Tryd.prog 53 #[.pointer (some fp), .int .u64 b, .int .u64 e, .slice A n c] w fun ev w' => ∃ g, ev = .returned (.tuple #[.pointer (some ⟨g, 0, none⟩), .nilIface]) ∧ w.heap.size ≤ g ∧ RgB g (.pointer (some fp)) b e A n c w' ∧ Below w.heap.size w w' := by
 have HS := zM hs
 clear hs
 have h1 : ¬ e < b := by omega
 have hne : ((n : Int) != (n : Int)) = false := by simp
 go_enter Tryd.func53, Tryd.ntmps53
 go_wp2_with (go_at_call 91; (with_reducible refine (compact_RangeSize.calls b e (n : Int) _ HS.out).mono ?_); rintro e' w' ⟨rfl, ⟨nq, rfl⟩⟩)
 go_ret2
 exact ⟨_, rfl, Nat.le_refl _, blk_new _ _, below_alloc (pw_below_drewN (Below.refl _ _) nq) _⟩
theorem RgB.below {g : Nat} {fv : Value} {b e : Int} {A : Option Addr} {n c : Nat} {w w' : World} (h : RgB g fv b e A n c w) (hb : Below w.heap.size w w') : RgB g fv b e A n c w' := blk_below h hb
def compact_getMergePath.f (a0 : Int) (a1 : Int) (a2 : Int) : Option (Int × Int) := (bits_TrailingZeros64.f a1).bind fun t120 => (if a0 = 0 then ((bits_Len64.f (Go.bits .xor .u64 (IntKind.u64.wrap (a1 - 1)) a2)).bind fun t121 => (if t121 < 64 then (some (IntKind.u64.wrap (t120), IntKind.u64.wrap (wrap64 (t121 - 1)))) else (some (IntKind.u64.wrap (t120), 64 - 1)))) else ((bits_Len64.f (Go.bits .xor .u64 a1 (IntKind.u64.wrap (a0 - 1)))).bind fun t122 => ((bits_Len64.f (Go.bits .xor .u64 (IntKind.u64.wrap (a1 - 1)) a2)).bind fun t123 => (if t123 < t122 then (some (IntKind.u64.wrap (t120), IntKind.u64.wrap (wrap64 (t123 - 1)))) else (some (IntKind.u64.wrap (t120), IntKind.u64.wrap (wrap64 (t122 - 1))))))))
set_option maxHeartbeats 8000000 in
set_option maxRecDepth 100000 in
theorem compact_getMergePath.calls (a0 : Int) (a1 : Int) (a2 : Int) (r1 : Int) (r2 : Int) (w : World) (hT : TabOK w) (h : compact_getMergePath.f a0 a1 a2 = some (r1, r2)) :
  Calls Tryd.prog 113 #[.int .u64 a0, .int .u64 a1, .int .u64 a2] w fun e w' => e = .returned (.tuple #[.int .u64 r1, .int .u64 r2]) ∧ Drawn0 w w' := by
 have HT := zM hT
 clear hT
 have H : ((bits_TrailingZeros64.f a1).bind fun t120 => (if a0 = 0 then ((bits_Len64.f (Go.bits .xor .u64 (IntKind.u64.wrap (a1 - 1)) a2)).bind fun t121 => (if t121 < 64 then (some (IntKind.u64.wrap (t120), IntKind.u64.wrap (wrap64 (t121 - 1)))) else (some (IntKind.u64.wrap (t120), 64 - 1)))) else ((bits_Len64.f (Go.bits .xor .u64 a1 (IntKind.u64.wrap (a0 - 1)))).bind fun t122 => ((bits_Len64.f (Go.bits .xor .u64 (IntKind.u64.wrap (a1 - 1)) a2)).bind fun t123 => (if t123 < t122 then (some (IntKind.u64.wrap (t120), IntKind.u64.wrap (wrap64 (t123 - 1)))) else (some (IntKind.u64.wrap (t120), IntKind.u64.wrap (wrap64 (t122 - 1))))))))) = some (r1, r2) := h
 clear h
 replace H := Option.bind_eq_some_iff.mp H
 obtain ⟨t120, A40, H⟩ := H
 (try dsimp only at H)
 have A4 := zM A40
 clear A40
 by_cases c5 : a0 = 0
 ·rw [if_pos c5] at H
  have c5b0 : (a0 == 0) = true := beq_iff_eq.mpr c5
  have c5b1 : (a0 != 0) = false := bne_eq_false_iff_eq.mpr c5
  clear c5
  replace H := Option.bind_eq_some_iff.mp H
  obtain ⟨t121, A60, H⟩ := H
  (try dsimp only at H)
  have A6 := zM A60
  clear A60
  by_cases c7 : t121 < 64
  ·rw [if_pos c7] at H
   have c7b0 : decide (t121 < 64) = true := decide_eq_true c7
   clear c7
   simp only [Option.some.injEq, Prod.mk.injEq] at H
   obtain ⟨rfl, rfl⟩ := H
   go_enter Tryd.func113, Tryd.ntmps113
   go_wp2_with (first | ((with_reducible refine gate_callee (f := 83) rfl ?_); refine goesL_ (some 12) rfl rfl Tryd.func83 (by kernel_rfl) rfl #[.int .u64 a1] rfl aV ?_; (with_reducible refine (bits_TrailingZeros64.calls a1 t120 _ ?side1 A4.out).mono ?_); (case side1 => exact HT.out); rintro e w' ⟨rfl, ⟨nd, rfl⟩⟩; refine ⟨_, rfl, ?_⟩) | ((with_reducible refine gate_callee (f := 109) rfl ?_); refine goesL_ (some 24) rfl rfl Tryd.func109 (by kernel_rfl) rfl #[.int .u64 (Go.bits .xor .u64 (IntKind.u64.wrap (a1 - 1)) a2)] rfl aV ?_; (with_reducible refine (bits_Len64.calls (Go.bits .xor .u64 (IntKind.u64.wrap (a1 - 1)) a2) t121 _ A6.out).mono ?_); rintro e w' ⟨rfl, ⟨nd, rfl⟩⟩; refine ⟨_, rfl, ?_⟩))
   go_ret2
   exact ⟨by first | rfl | (simp; done) | (simp [*]; done), by repeat (first | exact Drawn0.refl _ | apply Drawn0.step)⟩
  ·rw [if_neg c7] at H
   have c7b0 : decide (t121 < 64) = false := decide_eq_false c7
   clear c7
   simp only [Option.some.injEq, Prod.mk.injEq] at H
   obtain ⟨rfl, rfl⟩ := H
   go_enter Tryd.func113, Tryd.ntmps113
   go_wp2_with (first | ((with_reducible refine gate_callee (f := 83) rfl ?_); refine goesL_ (some 12) rfl rfl Tryd.func83 (by kernel_rfl) rfl #[.int .u64 a1] rfl aV ?_; (with_reducible refine (bits_TrailingZeros64.calls a1 t120 _ ?side1 A4.out).mono ?_); (case side1 => exact HT.out); rintro e w' ⟨rfl, ⟨nd, rfl⟩⟩; refine ⟨_, rfl, ?_⟩) | ((with_reducible refine gate_callee (f := 109) rfl ?_); refine goesL_ (some 24) rfl rfl Tryd.func109 (by kernel_rfl) rfl #[.int .u64 (Go.bits .xor .u64 (IntKind.u64.wrap (a1 - 1)) a2)] rfl aV ?_; (with_reducible refine (bits_Len64.calls (Go.bits .xor .u64 (IntKind.u64.wrap (a1 - 1)) a2) t121 _ A6.out).mono ?_); rintro e w' ⟨rfl, ⟨nd, rfl⟩⟩; refine ⟨_, rfl, ?_⟩))
   go_ret2
   exact ⟨by first | rfl | (simp; done) | (simp [*]; done), by repeat (first | exact Drawn0.refl _ | apply Drawn0.step)⟩
 ·rw [if_neg c5] at H
  have c5b0 : (a0 == 0) = false := beq_eq_false_iff_ne.mpr c5
  have c5b1 : (a0 != 0) = true := bne_iff_ne.mpr c5
  replace H := Option.bind_eq_some_iff.mp H
  obtain ⟨t122, A80, H⟩ := H
  (try dsimp only at H)
  have A8 := zM A80
  clear A80
  replace H := Option.bind_eq_some_iff.mp H
  obtain ⟨t123, A90, H⟩ := H
  (try dsimp only at H)
  have A9 := zM A90
  clear A90
  by_cases c10 : t123 < t122
  ·rw [if_pos c10] at H
   have c10b0 : decide (t123 < t122) = true := decide_eq_true c10
   clear c10
   simp only [Option.some.injEq, Prod.mk.injEq] at H
   obtain ⟨rfl, rfl⟩ := H
   go_enter Tryd.func113, Tryd.ntmps113
   go_wp2_with (first | ((with_reducible refine gate_callee (f := 83) rfl ?_); refine goesL_ (some 12) rfl rfl Tryd.func83 (by kernel_rfl) rfl #[.int .u64 a1] rfl aV ?_; (with_reducible refine (bits_TrailingZeros64.calls a1 t120 _ ?side1 A4.out).mono ?_); (case side1 => exact HT.out); rintro e w' ⟨rfl, ⟨nd, rfl⟩⟩; refine ⟨_, rfl, ?_⟩) | ((with_reducible refine gate_callee (f := 109) rfl ?_); refine goesL_ (some 19) rfl rfl Tryd.func109 (by kernel_rfl) rfl #[.int .u64 (Go.bits .xor .u64 a1 (IntKind.u64.wrap (a0 - 1)))] rfl aV ?_; (with_reducible refine (bits_Len64.calls (Go.bits .xor .u64 a1 (IntKind.u64.wrap (a0 - 1))) t122 _ A8.out).mono ?_); rintro e w' ⟨rfl, ⟨nd, rfl⟩⟩; refine ⟨_, rfl, ?_⟩) | ((with_reducible refine gate_callee (f := 109) rfl ?_); refine goesL_ (some 24) rfl rfl Tryd.func109 (by kernel_rfl) rfl #[.int .u64 (Go.bits .xor .u64 (IntKind.u64.wrap (a1 - 1)) a2)] rfl aV ?_; (with_reducible refine (bits_Len64.calls (Go.bits .xor .u64 (IntKind.u64.wrap (a1 - 1)) a2) t123 _ A9.out).mono ?_); rintro e w' ⟨rfl, ⟨nd, rfl⟩⟩; refine ⟨_, rfl, ?_⟩))
   go_ret2
   exact ⟨by first | rfl | (simp; done) | (simp [*]; done), by repeat (first | exact Drawn0.refl _ | apply Drawn0.step)⟩
  ·rw [if_neg c10] at H
   have c10b0 : decide (t123 < t122) = false := decide_eq_false c10
   clear c10
   simp only [Option.some.injEq, Prod.mk.injEq] at H
   obtain ⟨rfl, rfl⟩ := H
   go_enter Tryd.func113, Tryd.ntmps113
   go_wp2_with (first | ((with_reducible refine gate_callee (f := 83) rfl ?_); refine goesL_ (some 12) rfl rfl Tryd.func83 (by kernel_rfl) rfl #[.int .u64 a1] rfl aV ?_; (with_reducible refine (bits_TrailingZeros64.calls a1 t120 _ ?side1 A4.out).mono ?_); (case side1 => exact HT.out); rintro e w' ⟨rfl, ⟨nd, rfl⟩⟩; refine ⟨_, rfl, ?_⟩) | ((with_reducible refine gate_callee (f := 109) rfl ?_); refine goesL_ (some 19) rfl rfl Tryd.func109 (by kernel_rfl) rfl #[.int .u64 (Go.bits .xor .u64 a1 (IntKind.u64.wrap (a0 - 1)))] rfl aV ?_; (with_reducible refine (bits_Len64.calls (Go.bits .xor .u64 a1 (IntKind.u64.wrap (a0 - 1))) t122 _ A8.out).mono ?_); rintro e w' ⟨rfl, ⟨nd, rfl⟩⟩; refine ⟨_, rfl, ?_⟩) | ((with_reducible refine gate_callee (f := 109) rfl ?_); refine goesL_ (some 24) rfl rfl Tryd.func109 (by kernel_rfl) rfl #[.int .u64 (Go.bits .xor .u64 (IntKind.u64.wrap (a1 - 1)) a2)] rfl aV ?_; (with_reducible refine (bits_Len64.calls (Go.bits .xor .u64 (IntKind.u64.wrap (a1 - 1)) a2) t123 _ A9.out).mono ?_); rintro e w' ⟨rfl, ⟨nd, rfl⟩⟩; refine ⟨_, rfl, ?_⟩))
   go_ret2
   exact ⟨by first | rfl | (simp; done) | (simp [*]; done), by repeat (first | exact Drawn0.refl _ | apply Drawn0.step)⟩
end Go.Proofs.YtkmdkmlgahfcpaaDoor.M
