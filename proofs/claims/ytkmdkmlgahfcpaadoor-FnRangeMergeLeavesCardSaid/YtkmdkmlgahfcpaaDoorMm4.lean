-- Written by a program of ours (wip/xp) out of the translation; Lean checks it.
import Derived.Test.YtkmdkmlgahfcpaaDoorSq
import Derived.Test.YtkmdkmlgahfcpaaDoorMm1
import Derived.Test.YtkmdkmlgahfcpaaDoorMm2
import Derived.Test.YtkmdkmlgahfcpaaDoorMm3
namespace Go.Proofs.YtkmdkmlgahfcpaaDoor.M
open Go.RowKit Go.Proofs.YtkmdkmlgahfcpaaDoorW.PrintWords Go.Proofs.YtkmdkmlgahfcpaaDoorW.PrintLast Go.Proofs.YtkmdkmlgahfcpaaDoorW.PrintMore
attribute [local go_sem] max2_int min2_int max_two min_two max_three min_three max_four min_four   -- for this text's walks alone
set_option linter.unusedVariables false
set_option linter.unusedSimpArgs false

/-! ### compact_Range_appendImpl: function 93 -/
theorem info_visit : (Tryd.prog.info? 60).map (fun i => (i.zero, i.size, i.bytes)) = some (some (.agg #[(.int .u64 0), (.int .u64 0), (.slice none 0 0)]), 3, 40) := by kernel_rfl
/-- All blocks but those of two types and those of S are as they were. -/
def FKeep (S : Nat → Prop) (w w' : World) : Prop := w.heap.size ≤ w'.heap.size ∧ ∀ (k : Nat) (o : Obj), w.heap[k]? = some o → ¬ Two 42 60 o → ¬ S k → w'.heap[k]? = some o
abbrev VKeep (w w' : World) : Prop := TKeep 42 60 w w'
/-- What was shown, in memory. -/
def Vs (w : World) (B gb : Nat) (vis : List S60) : Prop := ∃ vs, w.heap[gb]? = some (.cells #[vs] 42 (0, 0)) ∧ k60.R 60 w B (fun _ => True) vs vis
theorem Vs.below {w w' : World} {B gb : Nat} {vis : List S60} (h : Vs w B gb vis) (hb : Below w.heap.size w w') : Vs w' B gb vis := by
 obtain ⟨vs, h1, h2⟩ := h
 exact ⟨vs, blk_below h1 hb, Kd.R_below h2 hb⟩
theorem Vs.drewN {w : World} {B gb : Nat} {vis : List S60} (h : Vs w B gb vis) (n : Nat) : Vs (w.drewN n) B gb vis := h.below (pw_below_drewN (Below.refl _ _) n)
theorem Vs.grown {W W1 : World} {B gb : Nat} {vis : List S60} {ok : Nat → Prop} {v : Value} {L : List (List Int)} (h : Vs W B gb vis) (hr : (Kd.slice 5 (Kd.int .u8)).R 27 W B ok v L) (hg : W.grownBy W1 v.ownBlock) : Vs W1 B gb vis := by
 obtain ⟨vs, h1, h2⟩ := h
 exact ⟨vs, blk_grown h1 hg (Kd.R_ne hr h1 (by decide)), Kd.R_mono (Kd.R_grown (Kd.R_apart' h2 (Kd.R_typed hr) (by decide)) hg (fun _ hk => hk.2)) (fun _ hk => hk.1)⟩
theorem Vs.set {W : World} {B gb g j : Nat} {vis : List S60} {cs : Array Value} {u : Value} (h : Vs W B gb vis) (hb : W.heap[g]? = some (.cells cs 157 (0, 0))) : Vs (W.setCell ⟨g, j, none⟩ u) B gb vis := by
 obtain ⟨vs, h1, h2⟩ := h
 exact ⟨vs, blk_far h1 (blk_ne h1 hb (by decide)) u, Kd.R_set h2 hb (by decide) j u⟩
theorem FKeep.of {S : Nat → Prop} {w wr W : World} (h : VKeep w wr) (hk : Kept wr W S) : FKeep S w W :=
 ⟨Nat.le_trans h.1 hk.1, fun k o h1 h2 h3 => (hk.2 k (blk_lt (h.2 k o h1 h2)) h3).trans (h.2 k o h1 h2)⟩
/-- fv is a visitor: it appends the node and a copy of the hash. -/
def Vst (fv : Value) (B gb : Nat) : Prop := ∃ f, fv = .func (.func f) #[] #[.pointer (some ⟨gb, 0, none⟩)] ∧ IsFc Tryd.prog fv f #[.pointer (some ⟨gb, 0, none⟩)] ∧
 ∀ (vis : List S60) (lv ix : Int) (A : Option Addr) (c : Nat) (hash : List Int) (w : World), Vs w B gb vis → B ≤ w.heap.size → (Kd.int .u8).C w A hash.length hash → hash.length ≤ c → hash.length < 140737488355328 → vis.length < 1000000000 →
  Calls Tryd.prog f #[.agg #[.int .u64 lv, .int .u64 ix], .slice A hash.length c, .pointer (some ⟨gb, 0, none⟩)] w fun e w' => e = .returned (.tuple #[]) ∧ Vs w' B gb (vis ++ [⟨⟨lv, ix⟩, hash⟩]) ∧ Below B w w' ∧ VKeep w w'
def rgMk (h x : Nat) (y : List Int) : S60 := ⟨⟨h, x⟩, y⟩
theorem rgMk_eq (h x : Nat) (y : List Int) : rgMk (h + 1) (x / 2) y = ⟨⟨(h : Int) + 1, (x : Int) / 2⟩, y⟩ := by
 unfold rgMk
 congr 2
/-- What the hash function makes, where it is short enough to be copied. -/
def rgH (k : Nat) (a0 a1 a2 a3 a4 a5 : Int) (l r : List Int) : Option (List Int) := (impl_toy_HashChildren.f k a0 a1 a2 a3 a4 a5 l r).bind fun y => if y.length < 140737488355328 then some y else none
/-- The merge of a range with what begins with seed and goes on with ys: the hashes, and the nodes that are made. -/
def rgApp (k : Nat) (a0 a1 a2 a3 a4 a5 : Int) (b m e : Int) (L : List (List Int)) (seed : List Int) (ys : List (List Int)) (vis : List S60) : Option (List (List Int) × List S60) :=
 (compact_getMergePath.f b m e).bind fun p =>
  if 0 ≤ m ∧ m < 18446744073709551616 ∧ 0 ≤ p.1 ∧ p.1 ≤ 64 ∧ 0 ≤ p.2 ∧ p.2 < 64 ∧ L.length < 1000000 ∧ ys.length < 1000000 ∧ vis.length < 1000000
    ∧ Lib.onesCount (m.toNat / 2 ^ p.1.toNat % 2 ^ (p.2.toNat - p.1.toNat)) ≤ L.length ∧ p.2.toNat - p.1.toNat ≤ ys.length + Lib.onesCount (m.toNat / 2 ^ p.1.toNat % 2 ^ (p.2.toNat - p.1.toNat)) then
   Mrg.mgF rgMk (rgH k a0 a1 a2 a3 a4 a5) (p.2.toNat - p.1.toNat) p.1.toNat (m.toNat / 2 ^ p.1.toNat) L ys seed vis
  else none
theorem and_one1 (a : Nat) (h : a < 18446744073709551616) : Go.bits .and .u64 (a : Int) 1 = ((a % 2 : Nat) : Int) := by
 rw [show (1 : Int) = ((1 : Nat) : Int) from rfl, bits_and_u64_nat a 1 h (by omega), show a &&& 1 = a % 2 from Nat.and_two_pow_sub_one_eq_mod a 1]
theorem row_drop {α : Type} {R : α → List Value → Prop} {w : World} {A : Option Addr} {xs : List α} {m c : Nat} (h : ReadsRow R 1 w A xs.length xs) (hm : m ≤ xs.length) (hc : xs.length ≤ c) : ReadsRow R 1 w (if c = m then A else A.map (·.add m)) (xs.drop m).length (xs.drop m) := by
 have hl : (xs.drop m).length = xs.length - m := List.length_drop
 refine ⟨rfl, by rw [hl]; have := h.2.1; omega, fun hp => ?_⟩
 rw [hl] at hp
 obtain ⟨ad, rfl, hcell⟩ := h.2.2 (by omega)
 rw [if_neg (by omega)]
 refine ⟨ad.add m, rfl, fun j p hj => ?_⟩
 rw [List.getElem?_drop] at hj
 obtain ⟨cs, h1, h2, h3⟩ := hcell (m + j) p hj
 refine ⟨cs, h1, h2, fun i u hu => ?_⟩
 rw [add_add, show m + (j * 1 + i) = (m + j) * 1 + i by omega]
 exact h3 i u hu
theorem rgH_some {k : Nat} {a0 a1 a2 a3 a4 a5 : Int} {l r y : List Int} (h : rgH k a0 a1 a2 a3 a4 a5 l r = some y) : impl_toy_HashChildren.f k a0 a1 a2 a3 a4 a5 l r = some y ∧ y.length < 140737488355328 := by
 unfold rgH at h
 obtain ⟨z, hz, h⟩ := Option.bind_eq_some_iff.mp h
 by_cases c : z.length < 140737488355328
 ·rw [if_pos c] at h
  obtain rfl := Option.some.inj h
  exact ⟨hz, c⟩
 ·rw [if_neg c] at h
  exact absurd h (by simp)
theorem getLast_take {L : List (List Int)} {i : Nat} {l : List Int} (hi : i ≤ L.length) (h : (L.take i).getLast? = some l) : 0 < i ∧ L.getD (i - 1) [] = l ∧ (L.take i).dropLast = L.take (i - 1) := by
 have hn : L.take i ≠ [] := fun e => by rw [e] at h; simp at h
 have h0 : 0 < i := by
  rcases Nat.eq_zero_or_pos i with h0 | h0
  ·subst h0; simp at hn
  ·exact h0
 refine ⟨h0, ?_, ?_⟩
 ·rw [List.getLast?_eq_getElem?, List.length_take, Nat.min_eq_left hi, List.getElem?_take, if_pos (by omega)] at h
  rw [List.getD_eq_getElem?_getD, h]
  rfl
 ·rw [List.dropLast_eq_take, List.length_take, Nat.min_eq_left hi, List.take_take, Nat.min_eq_left (by omega)]
theorem fact_fn (fn : Fn) (fi ca : Array Value) (w : World) : (binOp .neq 158 (.func fn fi ca) .nilFunc).run Tryd.prog w = .ok (.bool true) w := by
 have h : ∀ d : Nat, (Op.equalIn (d + 1) 158 (.func fn fi ca) .nilFunc).run Tryd.prog w = .ok false w := fun d => by
  simp [Op.equalIn, run_underlying Tryd.underlying158]
 simp only [binOp]
 simp [Op.equal, Op.maxDepth, h 9999]
theorem rg_rel {h_ dd lo d i1 i2 a b xx v1 vl : Nat} {Q : Prop} (h : h_ + (dd + 1) = lo + d ∧ i1 ≤ a ∧ i2 ≤ b ∧ xx < 18446744073709551616 ∧ v1 + (dd + 1) = vl + d ∧ Q) {i1' i2' : Nat} (h1 : i1' ≤ i1) (h2 : i2' ≤ b) :
  h_ + 1 + dd = lo + d ∧ i1' ≤ a ∧ i2' ≤ b ∧ xx / 2 < 18446744073709551616 ∧ v1 + 1 + dd = vl + d :=
 ⟨by omega, by omega, h2, by omega, by omega⟩
theorem div_pow (m lo : Nat) : (m : Int) / 2 ^ lo = ((m / 2 ^ lo : Nat) : Int) := by norm_cast
theorem and_low (x d : Nat) (hx : x < 18446744073709551616) (hd : d < 64) : Go.bits .and .u64 (x : Int) (IntKind.u64.wrap (IntKind.u64.wrap (2 ^ d) - 1)) = ((x % 2 ^ d : Nat) : Int) := by
 have hp := Nat.two_pow_pos d
 have hlt : 2 ^ d ≤ 2 ^ 63 := Nat.pow_le_pow_right (by decide) (by omega)
 have e : ((2 : Int) ^ d) = ((2 ^ d : Nat) : Int) := by simp
 have e2 : IntKind.u64.wrap ((2 ^ d : Nat) : Int) = ((2 ^ d : Nat) : Int) := IntWalk.u64_in _ ⟨by omega, by omega⟩
 have e3 : IntKind.u64.wrap ((2 ^ d - 1 : Nat) : Int) = ((2 ^ d - 1 : Nat) : Int) := IntWalk.u64_in _ ⟨by omega, by omega⟩
 rw [e, e2, show (((2 ^ d : Nat) : Int) - 1) = ((2 ^ d - 1 : Nat) : Int) by omega, e3, bits_and_u64_nat _ _ hx (by omega), Nat.and_two_pow_sub_one_eq_mod]
set_option maxHeartbeats 16000000 in
set_option maxRecDepth 100000 in
theorem compact_Range_appendImpl.calls (k : Nat) (a0 a1 a2 a3 a4 a5 : Int) (B g gf gb : Nat) (fh fv : Value) (b : Int) (m : Nat) (e : Int) (v : Value) (L : List (List Int)) (As : Option Addr) (cs_ : Nat) (seed : List Int) (Ah : Option Addr) (ch : Nat) (ys : List (List Int)) (vO : Value) (yO : List (List Int)) (vis : List S60) (r : List (List Int) × List S60) (w : World)
  (hT : TabOK w) (hG : w.heap[g]? = some (.cells #[.pointer (some ⟨gf, 0, none⟩), .int .u64 b, .int .u64 (m : Int), v] 157 (0, 0))) (hg : B ≤ g) (hF : w.heap[gf]? = some (.cells #[fh] 101 (0, 0)))
  (hfh : IsFn Tryd.prog fh 52 (.agg #[.int .i64 a0, .int .i64 a1, .int .i64 a2, .int .u64 a3, .int .u64 a4, .int .u64 a5])) (hfv : Vst fv B gb) (hV : Vs w B gb vis) (hB : B ≤ w.heap.size)
  (hR : (Kd.slice 5 (Kd.int .u8)).R 27 w B (fun _ => True) v L) (hS : (Kd.int .u8).R 5 w B (fun _ => True) (.slice As seed.length cs_) seed)
  (hO : (Kd.slice 5 (Kd.int .u8)).R 27 w B (fun k_ => some k_ ≠ v.ownBlock) vO yO) (hsrc : ∀ (W : World) (ok : Nat → Prop), (Kd.slice 5 (Kd.int .u8)).R 27 W B ok vO yO → ReadsRow (fun x c => (Kd.slice 5 (Kd.int .u8)).M W B ok x c) 1 W Ah ys.length ys) (hch : ys.length ≤ ch)
  (h : rgApp k a0 a1 a2 a3 a4 a5 b m e L seed ys vis = some r) :
  Calls Tryd.prog 93 #[.pointer (some ⟨g, 0, none⟩), .int .u64 e, .slice As seed.length cs_, .slice Ah ys.length ch, fv] w fun e' w' => e' = .returned .nilIface ∧
   ∃ v', w'.heap[g]? = some (.cells #[.pointer (some ⟨gf, 0, none⟩), .int .u64 b, .int .u64 e, v'] 157 (0, 0)) ∧ (Kd.slice 5 (Kd.int .u8)).R 27 w' B (fun _ => True) v' r.1 ∧ Vs w' B gb r.2 ∧ Below B w w' ∧ FKeep (fun k_ => k_ = g ∨ some k_ = v.ownBlock) w w' ∧ (v'.ownBlock = v.ownBlock ∨ ∃ b_, v'.ownBlock = some b_ ∧ w.heap.size ≤ b_) := by
 obtain ⟨A, c, rfl⟩ := Kd.R_slice hR
 obtain ⟨f, hfe, hf, hcl⟩ := hfv
 subst hfe
 unfold rgApp at h
 obtain ⟨p, hp, h⟩ := Option.bind_eq_some_iff.mp h
 obtain ⟨lo', hi'⟩ := p
 dsimp only at h
 by_cases hc : 0 ≤ (m : Int) ∧ (m : Int) < 18446744073709551616 ∧ 0 ≤ lo' ∧ lo' ≤ 64 ∧ 0 ≤ hi' ∧ hi' < 64 ∧ L.length < 1000000 ∧ ys.length < 1000000 ∧ vis.length < 1000000 ∧ Lib.onesCount ((m : Int).toNat / 2 ^ lo'.toNat % 2 ^ (hi'.toNat - lo'.toNat)) ≤ L.length ∧ hi'.toNat - lo'.toNat ≤ ys.length + Lib.onesCount ((m : Int).toNat / 2 ^ lo'.toNat % 2 ^ (hi'.toNat - lo'.toNat))
 case neg => rw [if_neg hc] at h; exact absurd h (by simp)
 rw [if_pos hc] at h
 rw [Int.toNat_natCast] at hc h
 obtain ⟨lo, rfl⟩ := Int.eq_ofNat_of_zero_le hc.2.2.1
 obtain ⟨hi, rfl⟩ := Int.eq_ofNat_of_zero_le hc.2.2.2.2.1
 simp only [Int.toNat_natCast] at hc h
 obtain ⟨_, hm, _, hlo, _, hhi, hL, hY, hVl, h1, h2⟩ := hc
 obtain ⟨d, hd'⟩ : ∃ d, d = hi - lo := ⟨_, rfl⟩
 rw [← hd'] at h h1 h2
 have hd : d < 64 := by omega
 have hmN : m < 18446744073709551616 := by omega
 have hx : (m : Int) / 2 ^ lo = ((m / 2 ^ lo : Nat) : Int) := div_pow m lo
 have hxl : m / 2 ^ lo < 18446744073709551616 := Nat.lt_of_le_of_lt (Nat.div_le_self _ _) hmN
 obtain ⟨x, hxe⟩ : ∃ x, x = m / 2 ^ lo := ⟨_, rfl⟩
 rw [← hxe] at h h1 h2 hx hxl
 have hlo64 : lo + d ≤ 64 := by omega
 have hsub : IntKind.u64.wrap (((lo + d : Nat) : Int) - (lo : Int)) = (d : Int) := by rw [show ((lo + d : Nat) : Int) - (lo : Int) = (d : Int) by omega]; exact IntWalk.u64_in _ ⟨by omega, by omega⟩
 have hand := and_low x d hxl hd
 obtain ⟨y, hye⟩ : ∃ y, y = x % 2 ^ d := ⟨_, rfl⟩
 rw [← hye] at h1 h2 hand
 have hyl : y < 18446744073709551616 := by rw [hye]; exact Nat.lt_of_le_of_lt (Nat.mod_le _ _) hxl
 have hoc : bits_OnesCount64.f (y : Int) = some (Lib.onesCount y : Int) := by unfold bits_OnesCount64.f; rw [if_pos ⟨by omega, by omega⟩, Int.toNat_natCast]
 generalize Lib.onesCount y = o at h1 h2 hoc
 have hn1 : ¬ ((L.length : Int) < (o : Int)) := by omega
 have hcv : IntKind.i64.wrap (d : Int) = (d : Int) := by rw [i64_w]; unfold wrap64; omega
 have hsb : IntKind.i64.wrap ((d : Int) - (o : Int)) = (d : Int) - (o : Int) := by rw [i64_w]; unfold wrap64; omega
 have hn2 : ¬ ((ys.length : Int) < (d : Int) - (o : Int)) := by omega
 have HOC := Aside0.mk hoc
 clear hoc hye hyl
 have HXE := Aside0.mk hxe
 have HDE := Aside0.mk hd'
 have HP := Aside0.mk hp
 have H' := Aside0.mk h
 clear hxe hd'
 have HT := Aside0.mk hT
 clear hp h hT
 have q0 : w.cell? ⟨g, 0, none⟩ = some (.pointer (some ⟨gf, 0, none⟩)) := (blk_cell hG 0).trans rfl
 have q1 : w.cell? ⟨g, 1, none⟩ = some (.int .u64 b) := (blk_cell hG 1).trans rfl
 have q2 : w.cell? ⟨g, 2, none⟩ = some (.int .u64 (m : Int)) := (blk_cell hG 2).trans rfl
 have q3 : w.cell? ⟨g, 3, none⟩ = some (.slice A L.length c) := (blk_cell hG 3).trans rfl
 have HH1 := Aside0.mk h1
 have HH2 := Aside0.mk h2
 clear h1 h2
 have HG := Aside0.mk hG
 have HF := Aside0.mk hF
 have HFH := Aside0.mk hfh
 have HF_ := Aside0.mk hf
 have HCL := Aside0.mk hcl
 have HV := Aside0.mk hV
 have HR := Aside0.mk hR
 have HS := Aside0.mk hS
 have HO := Aside0.mk hO
 have HSRC := Aside0.mk hsrc
 clear hG hF hfh hf hcl hV hR hS hO hsrc
 go_enter Tryd.func93, Tryd.ntmps93
 go_wp2
 go_quiet ((go_at_call 113; refine (compact_getMergePath.calls b (m : Int) e lo hi _ ?side1 HP.out).mono ?_; (case side1 => exact TabOK.below HT.out (pw_below_drewN (Below.refl _ _) _)); rintro e w'' ⟨he, ⟨n_, hm_⟩⟩; exact ⟨he, _, by rw [hm_, World.drewN_drewN]⟩))
 have HH := Aside0.mk h
 clear h
 have w2e : ∃ w2, w2 = w.drewN nq := ⟨_, rfl⟩
 obtain ⟨w2, hw2⟩ := w2e
 have hb2 : Below w.heap.size w w2 := by rw [hw2]; exact pw_below_drewN (Below.refl _ _) _
 have hsz : w2.heap.size = w.heap.size := by rw [hw2]; rfl
 have HB2 := Aside0.mk (hb2.mono hB)
 have HW2 := Aside0.mk (show VKeep w w2 from TKeep.of_below hb2)
 have HT2 := Aside0.mk (TabOK.below HT.out hb2)
 have HG2 := Aside0.mk (blk_below HG.out hb2)
 have HF2 := Aside0.mk (blk_below HF.out hb2)
 have HV2 := Aside0.mk (HV.out.below hb2)
 have HR2 := Aside0.mk (Kd.R_below HR.out hb2)
 have HS2 := Aside0.mk (Kd.R_below HS.out hb2)
 have HO2 := Aside0.mk (Kd.R_below HO.out hb2)
 have HSZ := Aside0.mk hsz
 have HBB := Aside0.mk hB
 rw [← hw2]
 replace q0 : w2.cell? ⟨g, 0, none⟩ = some (.pointer (some ⟨gf, 0, none⟩)) := (blk_cell HG2.out 0).trans rfl
 replace q1 : w2.cell? ⟨g, 1, none⟩ = some (.int .u64 b) := (blk_cell HG2.out 1).trans rfl
 replace q2 : w2.cell? ⟨g, 2, none⟩ = some (.int .u64 (m : Int)) := (blk_cell HG2.out 2).trans rfl
 replace q3 : w2.cell? ⟨g, 3, none⟩ = some (.slice A L.length c) := (blk_cell HG2.out 3).trans rfl
 clear hw2 hb2 hsz hB
 go_upto_if 36 with (fail)
 go_cut [12] from 37 to 37 (fun v12 wc => v12 = .int .u64 ((lo + d : Nat) : Int) ∧ wc = w2)
 case first =>
  clear hsub hand hx q0 q1 q2 q3 hlo64 hxl hmN hd hL hY hVl hm hlo hhi
  by_cases hlt : hi < lo
  ·go_wp2
   go_meet
   case rel => exact ⟨by rw [HDE.out, Nat.sub_eq_zero_of_le (Nat.le_of_lt hlt), Nat.add_zero], rfl⟩
  ·go_wp2
   go_meet
   case rel => exact ⟨by rw [HDE.out, Nat.add_sub_cancel' (Nat.le_of_not_lt hlt)], rfl⟩
 case rest =>
  obtain ⟨rfl, rfl⟩ := hcut
  go_upto_region 5 with (fail)
  go_upto_region 6 with (go_at_call 112; (with_reducible refine (bits_OnesCount64.calls _ _ _ HOC.out).mono ?_); rintro e' w' ⟨rfl, ⟨n5, rfl⟩⟩)
  go_outline
  have hn1' : ¬ L.length < o := by omega
  have hn2' : ¬ ((ys.length : Int) < (lo : Int) + (d : Int) - (lo : Int) - (o : Int)) := by omega
  clear hn1 hn2 hcv hsb hx hand hsub
  go_wp2
  clear hn1' hn2' q0 q1 q2 q3
  obtain ⟨w5, hw5⟩ : ∃ w5, w5 = wc.drewN n5 := ⟨_, rfl⟩
  have hb5 : Below wc.heap.size wc w5 := by rw [hw5]; exact pw_below_drewN (Below.refl _ _) _
  have hsz5 : w5.heap.size = wc.heap.size := by rw [hw5]; rfl
  have HB5 := Aside0.mk (HB2.out.trans (hb5.mono (by rw [HSZ.out]; exact HBB.out)))
  have HW5 := Aside0.mk (show VKeep w w5 from HW2.out.below hb5)
  have HG5 := Aside0.mk (blk_below HG2.out hb5)
  have HF5 := Aside0.mk (blk_below HF2.out hb5)
  have HV5 := Aside0.mk (HV2.out.below hb5)
  have HR5 := Aside0.mk (Kd.R_below HR2.out hb5)
  have HS5 := Aside0.mk (Kd.R_below HS2.out hb5)
  have HO5 := Aside0.mk (Kd.R_below HO2.out hb5)
  have HSZ5 := Aside0.mk (hsz5.trans HSZ.out)
  rw [← hw5]
  clear hw5 hb5 hsz5 HB2 HG2 HF2 HV2 HR2 HS2 HO2 HSZ HT2
  have HL := Aside0.mk hL
  have HYL := Aside0.mk hY
  have HVL := Aside0.mk hVl
  have HLO := Aside0.mk hlo64
  have HXL := Aside0.mk hxl
  have HD := Aside0.mk hd
  clear hL hY hVl hlo64 hxl hmN hd hm hlo hhi
  go_loopg [2, 13, 18, 19, 20] (d + 1) (fun kq v2 v13 v18 v19 v20 w' => ∃ (h_ dd xx i1 i2 : Nat) (s : List Int) (A2 : Option Addr) (c2 : Nat) (vis1 : List S60), v2 = .slice A2 s.length c2 ∧ v13 = .int .u64 (xx : Int) ∧ v18 = .int .i64 (i1 : Int) ∧ v19 = .int .i64 (i2 : Int) ∧ v20 = .int .u64 (h_ : Int) ∧ Aside0 (kq = dd + 1) ∧ Aside0 (h_ + dd = lo + d ∧ i1 ≤ L.length ∧ i2 ≤ ys.length ∧ xx < 18446744073709551616 ∧ vis1.length + dd = vis.length + d ∧ (dd = d ∨ s.length < 140737488355328)) ∧ Aside0 (Mrg.mgF rgMk (rgH k a0 a1 a2 a3 a4 a5) dd h_ xx (L.take i1) (ys.drop i2) s vis1 = some r) ∧ Aside0 ((Kd.int .u8).R 5 w' B (fun _ => True) v2 s) ∧ Aside0 (Vs w' B gb vis1) ∧ Aside0 (Below B w w') ∧ Aside0 (VKeep w5 w'))
  case atStart =>
   exact ⟨lo, d, x, L.length, 0, seed, As, cs_, vis, rfl, rfl, rfl, rfl, rfl, ⟨rfl⟩, ⟨rfl, Nat.le_refl _, Nat.zero_le _, HXL.out, rfl, .inl rfl⟩, ⟨by rw [List.take_length, List.drop_zero]; exact H'.out⟩, HS5, HV5, HB5, ⟨TKeep.refl _⟩⟩
  case round =>
   clear H' HS5 HV5 HB5
   obtain ⟨h_, dd, xx, i1, i2, s, A2, c2, vis1, rfl, rfl, rfl, rfl, rfl, HQ, HN, HM, HS, HV, HB, HK⟩ := hrel
   have hGr := HK.out.blk HG5.out (by decide) (by decide)
   have hFr := HK.out.blk HF5.out (by decide) (by decide)
   have HRr := Aside0.mk (HK.out.R HR5.out (by decide))
   have HOr := Aside0.mk (HK.out.R HO5.out (by decide))
   have HGr := Aside0.mk hGr
   have q0 : wr.cell? ⟨g, 0, none⟩ = some (.pointer (some ⟨gf, 0, none⟩)) := (blk_cell hGr 0).trans rfl
   have q3 : wr.cell? ⟨g, 3, none⟩ = some (.slice A L.length c) := (blk_cell hGr 3).trans rfl
   have qf : wr.cell? ⟨gf, 0, none⟩ = some fh := (blk_cell hFr 0).trans rfl
   clear hGr hFr
   cases dd with
   | zero =>
    have hM := HM.out
    rw [Mrg.mgF] at hM
    have hr := (Option.some.inj hM).symm
    subst hr
    have hlt1 : ¬ ((h_ : Int) < (lo : Int) + (d : Int)) := by have := HN.out.1; omega
    have ng : g < wr.heap.size := blk_lt HGr.out
    have hi1 := HN.out.2.1
    have hi2 := HN.out.2.2.1
    have HI1 := Aside0.mk hi1
    have HI2 := Aside0.mk hi2
    obtain ⟨i0, hi0, hz0⟩ := Option.map_eq_some_iff.1 info27
    simp only [Prod.mk.injEq] at hz0
    have hcut1 := cut_to 25 27 .i64 Tryd.underlying25 hi0 A L.length c (i1 : Int) (by omega) (by omega) (Kd.R_reads' HRr.out).2.1
    have hcut2 := cut_from 25 27 .i64 Tryd.underlying25 hi0 1 hz0.2.1 Ah ys.length ch (i2 : Int) (by omega) (by omega)
    rw [Int.toNat_natCast] at hcut1 hcut2
    simp only [Nat.mul_one] at hcut2
    generalize hA3 : (if ch = i2 then Ah else Ah.map (·.add i2)) = A3 at hcut2
    have HA3 := Aside0.mk hA3
    have HRt := Aside0.mk (by have := Kd.R_take HRr.out hi1; exact this : (Kd.slice 5 (Kd.int .u8)).R 27 wr B (fun _ => True) (.slice A i1 c) (L.take i1))
    have HLT := Aside0.mk (show (L.take i1).length = i1 by rw [List.length_take]; omega)
    have hown : (Value.slice A i1 c).ownBlock = (Value.slice A L.length c).ownBlock := by cases A <;> rfl
    have HOW := Aside0.mk hown
    have HOt := Aside0.mk (Kd.R_mono (ok' := fun k_ => True ∧ some k_ ≠ (Value.slice A i1 c).ownBlock) HOr.out (fun k_ hk_ => ⟨trivial, by rw [hown]; exact hk_⟩))
    have HCH := Aside0.mk hch
    clear hM hi1 hi2 hi0 hz0 hA3 hown hch
    have HLE := Aside0.mk (Nat.le_trans HBB.out HB.out.size)
    have HGE := Aside0.mk hg
    clear hg
    go_wp2
    go_region_law
     (first
      | (refine Kd.R_append_step (Kd.slice 5 (Kd.int .u8)) (w0 := w) (W := wr.drew) B ?hw (.tmp 137) (.tmp 139) 25 27 (.slice none 0 0) 24 ?ho Tryd.underlying25 info27 (by rfl) (by decide) (by omega) (.slice A i1 c) (L.take i1) s [.slice A2 s.length c2] (fun _ => True) (fun k_ => some k_ ≠ (Value.slice A i1 c).ownBlock) ?hs ?hx ?bM (fun _ h_ => ⟨trivial, h_⟩) (fun _ _ => trivial) ?bO ?bB ?bS ?bL ?_; (case ho => rfl); (case hw => rfl); (case hs => rfl); (case hx => rfl); (case bM => exact ⟨_, rfl, Kd.R_mono (Kd.R_apart' (Kd.R_drew HS.out) (Kd.R_typed (Kd.R_drew HRt.out)) (by decide)) (fun _ h_ => h_.2)⟩); (case bO => exact Kd.R_drew HRt.out); (case bB => exact below_drew HB.out); (case bS => exact HLE.out); (case bL => rw [HLT.out]; have := HL.out; have := HI1.out; omega); intro v14 w14 hr14 hb14 hg14 hat14; have HR14 := Aside0.mk hr14; have HB14 := Aside0.mk hb14; have HK14 := Aside0.mk (blk_grown (show wr.drew.heap[g]? = _ from HGr.out) hg14 (Kd.R_ne HRt.out HGr.out (by decide))); have HV14 := Aside0.mk (Vs.grown (HV.out.below (below_drew (Below.refl _ _))) (Kd.R_drew HRt.out) hg14); have HO14 := Aside0.mk (Kd.R_after (Kd.R_drew HOt.out) hg14 hat14); have HP14 := Aside0.mk (Kept.of_grown (S := fun k_ => k_ = g ∨ some k_ = (Value.slice A L.length c).ownBlock) hg14 (Kept.refl wr _).drew (fun k_ hk_ => .inl (.inr (hk_.symm.trans HOW.out)))); have HA14 := Aside0.mk hat14; clear hr14 hb14 hg14 hat14)
      | (refine Kd.R_append_rows_step (Kd.slice 5 (Kd.int .u8)) (w0 := w) B ?hw (.tmp 140) (.tmp 143) 25 27 (.slice none 0 0) 24 rfl Tryd.underlying25 info27 (by rfl) (by decide) (by omega) v14 (L.take i1 ++ [s]) (ys.drop i2) A3 (ys.length - i2) (ch - i2) (fun _ => True) (fun k_ => True ∧ some k_ ≠ v14.ownBlock) rfl rfl ?aO ?aR (fun _ _ h => h) (fun _ h => h) (fun _ _ => trivial) ?aB ?aS ?aL ?_; (case hw => rfl); (case aO => exact HR14.out); (case aR => have hrr := row_drop (c := ch) (HSRC.out _ _ HO14.out) HI2.out HCH.out; rw [HA3.out, List.length_drop] at hrr; exact hrr); (case aB => exact HB14.out); (case aS => exact Nat.le_trans HBB.out HB14.out.size); (case aL => rw [List.length_append, HLT.out, List.length_singleton]; have := HL.out; have := HI1.out; have := HYL.out; omega); intro v15 w15 hr15 hb15 hg15 hat15; obtain ⟨A15, c15, e15⟩ := Kd.R_slice hr15; generalize hn15 : (L.take i1 ++ [s] ++ ys.drop i2).length = n15 at e15; subst e15; have hk15 := blk_grown HK14.out hg15 (Kd.R_ne HR14.out HK14.out (by decide)); have HK15 := Aside0.mk hk15; have c15_ : w15.cell? ⟨g, 3, none⟩ = some (.slice A L.length c) := (blk_cell hk15 3).trans rfl; have f15_ := blk_frozen hk15 3; have HR15 := Aside0.mk hr15; have HB15 := Aside0.mk hb15; have HV15 := Aside0.mk (Vs.grown HV14.out HR14.out hg15); have HP15 := Aside0.mk (Kept.of_grown hg15 HP14.out (fun k_ hk_ => HA14.out.elim (fun e_ => .inl (.inr (hk_.symm.trans (e_.trans HOW.out)))) (fun he_ => he_.elim fun b_ hb_ => .inr (by have hx_ := hk_.symm.trans hb_.1; injection hx_ with hx_; subst hx_; exact hb_.2)))); have HA15 := Aside0.mk hat15; clear hr15 hb15 hg15 hat15 hk15 hn15))
    all_goals
     have hk16 := blk_put HK15.out 3 (.slice A15 n15 c15) rfl
     have HK16 := Aside0.mk hk16
     have HR16 := Aside0.mk (Kd.R_set HR15.out HK15.out (by decide) 3 (.slice A15 n15 c15))
     have HV16 := Aside0.mk (HV15.out.set (j := 3) (u := .slice A15 n15 c15) HK15.out)
     have HB16 := Aside0.mk (HB15.out.setCell (p := ⟨g, 3, none⟩) HGE.out (.slice A15 n15 c15))
     have HP16 := Aside0.mk (HP15.out.setCell (p := ⟨g, 3, none⟩) (.inl (.inl rfl)) (.slice A15 n15 c15))
     have q2 : (w15.setCell ⟨g, 3, none⟩ (.slice A15 n15 c15)).cell? ⟨g, 2, none⟩ = some (.int .u64 (m : Int)) := (blk_cell hk16 2).trans rfl
     have f2 := blk_frozen hk16 2
     clear hk16
     generalize w15.setCell ⟨g, 3, none⟩ (.slice A15 n15 c15) = w16 at *
     go_wp2
     go_ret
     refine ⟨rfl, .slice A15 n15 c15, blk_put HK16.out 2 _ rfl, ?_, HV16.out.set HK16.out, HB16.out.setCell HGE.out _, FKeep.of (HW5.out.trans HK.out) (HP16.out.setCell (.inl (.inl rfl)) _), ?_⟩
     ·have h_ := Kd.R_set HR16.out HK16.out (by decide) 2 (.int .u64 e)
      rw [List.append_assoc] at h_
      exact h_
     ·have hsz := Nat.le_trans HW5.out.1 HK.out.1
      rcases HA15.out with e_ | ⟨b_, e_, hb_⟩
      ·rcases HA14.out with e2_ | ⟨b_, e2_, hb_⟩
       ·exact .inl (e_.trans (e2_.trans HOW.out))
       ·exact .inr ⟨b_, e_.trans e2_, Nat.le_trans hsz hb_⟩
      ·exact .inr ⟨b_, e_, Nat.le_trans hsz (Nat.le_trans HP14.out.1 hb_)⟩
   | succ dd =>
    have hlt1 : (h_ : Int) < (lo : Int) + (d : Int) := by have := HN.out.1; omega
    have hbit := and_one1 xx HN.out.2.2.2.1
    have hM := HM.out
    clear HM
    rw [Mrg.mgF] at hM
    by_cases c0 : xx % 2 = 0
    ·rw [if_pos c0] at hM
     rw [c0] at hbit
     cases hdr : ys.drop i2 with
     | nil => rw [hdr] at hM; exact absurd hM (by simp)
     | cons y0 R' =>
      rw [hdr, List.head?_cons, Option.bind_some, List.tail_cons] at hM
      obtain ⟨z, hz, hM⟩ := Option.bind_eq_some_iff.mp hM
      obtain ⟨hz, hzl⟩ := rgH_some hz
      have hi2 : i2 < ys.length := by
       apply Nat.lt_of_not_le
       intro hle
       rw [List.drop_eq_nil_of_le hle] at hdr
       cases hdr
      have hR' : ys.drop (i2 + 1) = R' := by rw [← List.drop_drop, hdr]; rfl
      have hy0 : ys.getD i2 [] = y0 := by
       have h1 : (ys.drop i2)[0]? = some y0 := by rw [hdr]; rfl
       rw [List.getElem?_drop, Nat.add_zero] at h1
       rw [List.getD_eq_getElem?_getD, h1]
       rfl
      obtain ⟨ad, cc, eA, _, hK_, hcell⟩ := (HSRC.out wr _ HOr.out).get_ ([] : List Int) (i2 : Int) (by omega) (by omega)
      rw [Int.toNat_natCast] at hK_ hcell
      rw [hy0] at hK_
      obtain ⟨ve, rfl, hE⟩ := hK_
      have hce := hcell 0 _ rfl
      rw [Nat.mul_one, Nat.add_zero] at hce
      obtain ⟨Ae, de, rfl⟩ := Kd.R_slice hE
      have HE := Aside0.mk hE
      have HZ := Aside0.mk hz
      have HZL := Aside0.mk hzl
      rw [← hR'] at hM
      have HM := Aside0.mk hM
      have j0 : (0 : Int) ≤ (i2 : Int) := by omega
      have j1 : (i2 : Int) < (ys.length : Int) := by omega
      have hwi : wrap64 ((i2 : Int) + 1) = (i2 : Int) + 1 := by unfold wrap64; have := HYL.out; omega
      have HI2 := Aside0.mk hi2
      clear hz hM hE hcell hdr hy0 hR' hi2
      subst eA
      go_upto_region 17 with (fail)
      go_still_tail 12, (by kernel_rfl)
      go_upto_region 22 with ((with_reducible refine gate_value (x := .tmp 93) rfl ?_); refine callsFv_ (some 99) rfl rfl fh _ HFH.out #[.slice A2 s.length c2, .slice Ae y0.length de] #[.agg #[.int .i64 a0, .int .i64 a1, .int .i64 a2, .int .u64 a3, .int .u64 a4, .int .u64 a5], .slice A2 s.length c2, .slice Ae y0.length de] rfl rfl (by first | rfl | (simp only [Act.eval]; rfl)) (by (try simp only [List.map_toArray, List.map_cons, List.map_nil]); first | done | rfl) ?_; (with_reducible refine (impl_toy_HashChildren.calls k a0 a1 a2 a3 a4 a5 _ _ s _ _ y0 z _ ?side1 ?side2 ?side3 ?side4 HZ.out).mono ?_); (case side1 => exact Kd.C_drew (Kd.R_reads' HS.out).2.2); (case side2 => exact (Kd.R_reads' HS.out).2.1); (case side3 => exact Kd.C_drew (Kd.R_reads' HE.out).2.2); (case side4 => exact (Kd.R_reads' HE.out).2.1); rintro e' w7 ⟨v7, rfl, ho7, hb7⟩; refine ⟨_, rfl, ?_⟩; have HO7 := Aside0.mk ho7; have HB7 := Aside0.mk (below_step (below_drew (Below.refl wr.heap.size wr)) hb7); clear ho7 hb7)
      obtain ⟨A7, c7, rfl⟩ := Kd.R_slice HO7.out
      have hwh : IntKind.u64.wrap ((h_ : Int) + 1) = (h_ : Int) + 1 := IntWalk.u64_in _ ⟨by omega, by have := HLO.out; have := HN.out.1; omega⟩
      have hnn := fact_fn
      have hle := Nat.le_trans HBB.out HB.out.size
      have HLE := Aside0.mk hle
      clear hle
      go_wp2_with (first | (go_at_call 92; (with_reducible refine (compact_NewNodeID.calls _ _ _ _ _ rfl).mono ?_); rintro e' w8 ⟨rfl, hb8⟩; have HB8 := Aside0.mk hb8; clear hb8) | ((with_reducible refine gate_value (x := .tmp 124) rfl ?_); refine callsFc_ (some 130) rfl rfl _ _ HF_.out #[.agg #[.int .u64 ((h_ : Int) + 1), .int .u64 ((xx : Int) / 2)], .slice A7 z.length c7] #[.agg #[.int .u64 ((h_ : Int) + 1), .int .u64 ((xx : Int) / 2)], .slice A7 z.length c7, .pointer (some ⟨gb, 0, none⟩)] rfl rfl (by first | rfl | (simp only [Act.eval]; rfl)) (by (try simp only [List.map_toArray, List.map_cons, List.map_nil]); first | done | rfl) ?_; (with_reducible refine (HCL.out vis1 ((h_ : Int) + 1) ((xx : Int) / 2) A7 c7 z _ ?side1 ?side2 ?side3 ?side4 HZL.out ?side5).mono ?_); (case side1 => exact (HV.out.below HB7.out).below HB8.out); (case side2 => exact Nat.le_trans HLE.out (Nat.le_trans HB7.out.size HB8.out.size)); (case side3 => exact Kd.C_below (Kd.R_reads' HO7.out).2.2 HB8.out); (case side4 => exact (Kd.R_reads' HO7.out).2.1); (case side5 => have := HN.out.2.2.2.2.1; have := HVL.out; have := HD.out; omega); rintro e' w9 ⟨rfl, hv9, hb9, hk9⟩; refine ⟨_, rfl, ?_⟩; have HV9 := Aside0.mk hv9; have HB9 := Aside0.mk hb9; have HK9 := Aside0.mk hk9; clear hv9 hb9 hk9))
      go_roundg (dd + 1)
      case measure => have := HQ.out; omega
      case rel =>
       refine ⟨h_ + 1, dd, xx / 2, i1, i2 + 1, z, A7, c7, vis1 ++ [rgMk (h_ + 1) (xx / 2) z], rfl, by simp, rfl, by simp, by simp, ⟨rfl⟩, ⟨?_⟩, HM, ⟨?_⟩, ⟨?_⟩, ⟨?_⟩, ⟨?_⟩⟩
       ·obtain ⟨g1, g2, g3, g4, g5⟩ := rg_rel HN.out (i1' := i1) (i2' := i2 + 1) (Nat.le_refl _) HI2.out
        exact ⟨g1, g2, g3, g4, by rw [List.length_append, List.length_singleton]; exact g5, .inr HZL.out⟩
       ·exact HK9.out.R (Kd.R_below (Kd.R_lower HO7.out HLE.out) HB8.out) (by decide)
       ·rw [rgMk_eq]; exact HV9.out
       ·exact HB.out.trans ((HB7.out.mono HLE.out).trans ((HB8.out.mono (Nat.le_trans HLE.out HB7.out.size)).trans HB9.out))
       ·exact ((HK.out.below HB7.out).below HB8.out).trans HK9.out
    ·rw [if_neg c0] at hM
     have c1 : xx % 2 = 1 := by omega
     rw [c1] at hbit
     obtain ⟨l, hlast, hM⟩ := Option.bind_eq_some_iff.mp hM
     obtain ⟨z, hz, hM⟩ := Option.bind_eq_some_iff.mp hM
     obtain ⟨hz, hzl⟩ := rgH_some hz
     obtain ⟨hi1, hl, hdl⟩ := getLast_take HN.out.2.1 hlast
     rw [hdl] at hM
     obtain ⟨i3, rfl⟩ : ∃ i3, i1 = i3 + 1 := ⟨i1 - 1, by omega⟩
     rw [Nat.add_sub_cancel] at hl hM
     have hi3 : i3 < L.length := by have := HN.out.2.1; omega
     obtain ⟨gh, cg, eA, hBg, hgl, cells, hcl⟩ := row_form2 HRr.out (by omega)
     obtain ⟨rfl, rfl⟩ : A = some ⟨gh, 0, none⟩ ∧ c = cg := by injection eA with e1 e2 e3; exact ⟨e1, e3⟩
     obtain ⟨Ae, de, ecx, hE⟩ := row_elem2 HRr.out i3 hi3
     rw [hl] at ecx hE
     have HE := Aside0.mk hE
     have HZ := Aside0.mk hz
     have HZL := Aside0.mk hzl
     have HM := Aside0.mk hM
     have j0 : (0 : Int) ≤ (i3 : Int) := by omega
     have j1 : (i3 : Int) < (L.length : Int) := by omega
     have hwi : wrap64 (i3 : Int) = (i3 : Int) := by unfold wrap64; have := HL.out; omega
     clear hz hM hE hl hdl hlast hi1 hi3 eA hBg hgl hcl
     go_upto_region 20 with (fail)
     go_still_tail 15, (by kernel_rfl)
     go_upto_region 22 with ((with_reducible refine gate_value (x := .tmp 110) rfl ?_); refine callsFv_ (some 119) rfl rfl fh _ HFH.out #[.slice Ae l.length de, .slice A2 s.length c2] #[.agg #[.int .i64 a0, .int .i64 a1, .int .i64 a2, .int .u64 a3, .int .u64 a4, .int .u64 a5], .slice Ae l.length de, .slice A2 s.length c2] rfl rfl (by first | rfl | (simp only [Act.eval]; rfl)) (by (try simp only [List.map_toArray, List.map_cons, List.map_nil]); first | done | rfl) ?_; (with_reducible refine (impl_toy_HashChildren.calls k a0 a1 a2 a3 a4 a5 _ _ l _ _ s z _ ?side1 ?side2 ?side3 ?side4 HZ.out).mono ?_); (case side1 => exact Kd.C_drew (Kd.R_reads' HE.out).2.2); (case side2 => exact (Kd.R_reads' HE.out).2.1); (case side3 => exact Kd.C_drew (Kd.R_reads' HS.out).2.2); (case side4 => exact (Kd.R_reads' HS.out).2.1); rintro e' w7 ⟨v7, rfl, ho7, hb7⟩; refine ⟨_, rfl, ?_⟩; have HO7 := Aside0.mk ho7; have HB7 := Aside0.mk (below_step (below_drew (Below.refl wr.heap.size wr)) hb7); clear ho7 hb7)
     obtain ⟨A7, c7, rfl⟩ := Kd.R_slice HO7.out
     have hwh : IntKind.u64.wrap ((h_ : Int) + 1) = (h_ : Int) + 1 := IntWalk.u64_in _ ⟨by omega, by have := HLO.out; have := HN.out.1; omega⟩
     have hnn := fact_fn
     have hle := Nat.le_trans HBB.out HB.out.size
     have HLE := Aside0.mk hle
     clear hle
     go_wp2_with (first | (go_at_call 92; (with_reducible refine (compact_NewNodeID.calls _ _ _ _ _ rfl).mono ?_); rintro e' w8 ⟨rfl, hb8⟩; have HB8 := Aside0.mk hb8; clear hb8) | ((with_reducible refine gate_value (x := .tmp 124) rfl ?_); refine callsFc_ (some 130) rfl rfl _ _ HF_.out #[.agg #[.int .u64 ((h_ : Int) + 1), .int .u64 ((xx : Int) / 2)], .slice A7 z.length c7] #[.agg #[.int .u64 ((h_ : Int) + 1), .int .u64 ((xx : Int) / 2)], .slice A7 z.length c7, .pointer (some ⟨gb, 0, none⟩)] rfl rfl (by first | rfl | (simp only [Act.eval]; rfl)) (by (try simp only [List.map_toArray, List.map_cons, List.map_nil]); first | done | rfl) ?_; (with_reducible refine (HCL.out vis1 ((h_ : Int) + 1) ((xx : Int) / 2) A7 c7 z _ ?side1 ?side2 ?side3 ?side4 HZL.out ?side5).mono ?_); (case side1 => exact (HV.out.below HB7.out).below HB8.out); (case side2 => exact Nat.le_trans HLE.out (Nat.le_trans HB7.out.size HB8.out.size)); (case side3 => exact Kd.C_below (Kd.R_reads' HO7.out).2.2 HB8.out); (case side4 => exact (Kd.R_reads' HO7.out).2.1); (case side5 => have := HN.out.2.2.2.2.1; have := HVL.out; have := HD.out; omega); rintro e' w9 ⟨rfl, hv9, hb9, hk9⟩; refine ⟨_, rfl, ?_⟩; have HV9 := Aside0.mk hv9; have HB9 := Aside0.mk hb9; have HK9 := Aside0.mk hk9; clear hv9 hb9 hk9))
     go_roundg (dd + 1)
     case measure => have := HQ.out; omega
     case rel =>
      refine ⟨h_ + 1, dd, xx / 2, i3, i2, z, A7, c7, vis1 ++ [rgMk (h_ + 1) (xx / 2) z], rfl, by simp, by simp, rfl, by simp, ⟨rfl⟩, ⟨?_⟩, HM, ⟨?_⟩, ⟨?_⟩, ⟨?_⟩, ⟨?_⟩⟩
      ·obtain ⟨g1, g2, g3, g4, g5⟩ := rg_rel HN.out (i1' := i3) (i2' := i2) (Nat.le_succ _) HN.out.2.2.1
       exact ⟨g1, g2, g3, g4, by rw [List.length_append, List.length_singleton]; exact g5, .inr HZL.out⟩
      ·exact HK9.out.R (Kd.R_below (Kd.R_lower HO7.out HLE.out) HB8.out) (by decide)
      ·rw [rgMk_eq]; exact HV9.out
      ·exact HB.out.trans ((HB7.out.mono HLE.out).trans ((HB8.out.mono (Nat.le_trans HLE.out HB7.out.size)).trans HB9.out))
      ·exact ((HK.out.below HB7.out).below HB8.out).trans HK9.out
theorem mgF_mono {V : Type} (mk : Nat → Nat → List Int → V) {hc hc' : List Int → List Int → Option (List Int)} (hm : ∀ a b, LeO (hc a b) (hc' a b)) : ∀ (d h x : Nat) (L R : List (List Int)) (s : List Int) (vis : List V), LeO (Mrg.mgF mk hc d h x L R s vis) (Mrg.mgF mk hc' d h x L R s vis)
 | 0, _, _, _, _, _, _ => LeO.refl _
 | d + 1, h, x, L, R, s, vis => by
  rw [Mrg.mgF, Mrg.mgF]
  exact LeO.ite (LeO.bind (LeO.refl _) (fun r => LeO.bind (hm _ _) (fun y => mgF_mono mk hm d _ _ _ _ _ _))) (LeO.bind (LeO.refl _) (fun r => LeO.bind (hm _ _) (fun y => mgF_mono mk hm d _ _ _ _ _ _)))
theorem rgH_mono (a0 a1 a2 a3 a4 a5 : Int) (k : Nat) (l r : List Int) : LeO (rgH k a0 a1 a2 a3 a4 a5 l r) (rgH (k + 1) a0 a1 a2 a3 a4 a5 l r) := LeO.bind (impl_toy_HashChildren.mono _ _ _ _ _ _ _ _ _) (fun y => LeO.refl _)
theorem rgApp_mono (a0 a1 a2 a3 a4 a5 b m e : Int) (L : List (List Int)) (seed : List Int) (ys : List (List Int)) (vis : List S60) (k : Nat) : LeO (rgApp k a0 a1 a2 a3 a4 a5 b m e L seed ys vis) (rgApp (k + 1) a0 a1 a2 a3 a4 a5 b m e L seed ys vis) := by
 unfold rgApp
 exact LeO.bind (LeO.refl _) (fun p => LeO.ite (mgF_mono _ (rgH_mono _ _ _ _ _ _ k) _ _ _ _ _ _ _) (LeO.refl _))
theorem FKeep.pre {S : Nat → Prop} {w w1 w2 : World} (h : VKeep w w1) (h2 : FKeep S w1 w2) : FKeep S w w2 := ⟨Nat.le_trans h.1 h2.1, fun k o h3 h4 h5 => h2.2 k o (h.2 k o h3 h4) h4 h5⟩
theorem FKeep.R {α : Type} {d : Kd α} {S : Nat → Prop} {w w1 : World} {e base : Nat} {ok : Nat → Prop} {v : Value} {xs : List α} (h : FKeep S w w1) (hr : d.R e w base ok v xs) (hq : ∀ q, q ∈ e :: d.E → q ≠ 42 ∧ q ≠ 60) (hne : ∀ k, ok k → ¬ S k) : d.R e w1 base ok v xs := by
 refine Kd.R_mono (Kd.R_move (Kd.R_bound hr) (fun k hk => ?_)) (fun _ hk => hk.1)
 obtain ⟨ho, _, _, q, hq1, cells, hc⟩ := hk
 rw [hc]
 exact h.2 k _ hc (by rintro ⟨cs', fl', e | e⟩ <;> · injection e with _ e; first | exact (hq q hq1).1 e | exact (hq q hq1).2 e) (hne k ho)
theorem FKeep.blk {S : Nat → Prop} {w w1 : World} {g t : Nat} {cs : Array Value} (h : FKeep S w w1) (hb : w.heap[g]? = some (.cells cs t (0, 0))) (h1 : t ≠ 42) (h2 : t ≠ 60) (hn : ¬ S g) : w1.heap[g]? = some (.cells cs t (0, 0)) :=
 h.2 g _ hb (by rintro ⟨cs', fl', e | e⟩ <;> · injection e with _ e; first | exact h1 e | exact h2 e) hn
theorem Vst.ne {fv : Value} {B gb : Nat} (h : Vst fv B gb) : ∃ f, fv = .func (.func f) #[] #[.pointer (some ⟨gb, 0, none⟩)] := h.elim fun f hf => ⟨f, hf.1⟩
/-- An empty row, made. -/
theorem emptyR (X : World) (B : Nat) (hB : B ≤ X.heap.size) : (Kd.int .u8).R 5 (X.alloc (.cells #[] 5)) B (fun _ => True) (.slice (some ⟨X.heap.size, 0, none⟩) 0 0) [] :=
 ⟨fun _ _ => trivial, [], World.ownsRow_lit (base := B) (e := 5) (size := 1) X #[] 0 hB (by decide) rfl, Reps.none _ _⟩
def rgNew (b e : Int) (x : List (List Int)) : Prop := b ≤ e ∧ compact_RangeSize.f b e = some (x.length : Int) ∧ 0 ≤ e ∧ e < 18446744073709551616
instance (b e : Int) (x : List (List Int)) : Decidable (rgNew b e x) := by unfold rgNew; infer_instance
theorem fact_func (fn : Fn) (first cap : Array Value) (w : World) : (Instr.makeFunc fn first cap).run Tryd.prog w = .ok (.func fn first cap) w := rfl
def HeldR (g : Nat) (b e : Int) (A : Option Addr) (n c : Nat) (w : World) : Prop := w.cell? ⟨g, 0, none⟩ = some (.int .u64 b) ∧ w.cell? ⟨g, 1, none⟩ = some (.int .u64 e) ∧ w.cell? ⟨g, 2, none⟩ = some (.slice A n c)
theorem HeldR.of {g : Nat} {b e : Int} {A : Option Addr} {n c : Nat} {w : World} (h : w.heap[g]? = some (.cells #[.int .u64 b, .int .u64 e, .slice A n c] 39 (0, 0))) : HeldR g b e A n c w :=
 ⟨(blk_cell h 0).trans rfl, (blk_cell h 1).trans rfl, (blk_cell h 2).trans rfl⟩
theorem HeldR.below {g B : Nat} {b e : Int} {A : Option Addr} {n c : Nat} {w w' : World} (h : HeldR g b e A n c w) (hb : Below B w w') (hg : g < B) : HeldR g b e A n c w' :=
 ⟨(hb.cell (p := ⟨g, 0, none⟩) hg).trans h.1, (hb.cell (p := ⟨g, 1, none⟩) hg).trans h.2.1, (hb.cell (p := ⟨g, 2, none⟩) hg).trans h.2.2⟩
theorem leaves_kept {w w1 : World} {B g : Nat} {v v1 vY : Value} {y : List (List Int)} {cs : Array Value} (hK : FKeep (fun k_ => k_ = g ∨ some k_ = v.ownBlock) w w1) (hG : w.heap[g]? = some (.cells cs 157 (0, 0)))
  (hR : (Kd.slice 5 (Kd.int .u8)).R 27 w B (fun k_ => some k_ ≠ v.ownBlock) vY y) (hat : v1.ownBlock = v.ownBlock ∨ ∃ b_, v1.ownBlock = some b_ ∧ w.heap.size ≤ b_) : (Kd.slice 5 (Kd.int .u8)).R 27 w1 B (fun k_ => some k_ ≠ v1.ownBlock) vY y := by
 have h1 := Kd.R_bound (Kd.R_types hR hG (by decide))
 refine Kd.R_mono (hK.R h1 (by decide) (fun k hk hs => ?_)) (fun k hk => ?_)
 ·rcases hs with e | e
  ·exact hk.1.2 e
  ·exact hk.1.1 e
 ·rcases hat with e | ⟨b_, e, hb⟩
  ·rw [e]; exact hk.1.1
  ·rw [e]
   intro e2
   injection e2 with e2
   have := hk.2.2.1
   omega
theorem blk_kept' {w w1 : World} {B g g' t : Nat} {v : Value} {L : List (List Int)} {cs cs' : Array Value} (hK : FKeep (fun k_ => k_ = g ∨ some k_ = v.ownBlock) w w1) (hG : w.heap[g]? = some (.cells cs 157 (0, 0))) (hR : (Kd.slice 5 (Kd.int .u8)).R 27 w B (fun _ => True) v L)
  (hb : w.heap[g']? = some (.cells cs' t (0, 0))) (h1 : t ≠ 42) (h2 : t ≠ 60) (h3 : t ≠ 157) (h4 : 27 ≠ t) : w1.heap[g']? = some (.cells cs' t (0, 0)) :=
 hK.blk hb h1 h2 (fun h => h.elim (fun e => blk_ne hb hG h3 e) (fun e => Kd.R_ne hR hb h4 e))
/-- The four blocks that Append and AppendRange begin with. -/
theorem four_blocks (w : World) (o1 o2 o3 o4 : Obj) (w3 : World) (hw3 : w3 = (((w.alloc o1).alloc o2).alloc o3).alloc o4) :
  Below w.heap.size w w3 ∧ w3.heap.size = w.heap.size + 4 ∧ w3.heap[w.heap.size]? = some o1 ∧ w3.heap[w.heap.size + 1]? = some o2 ∧ w3.heap[w.heap.size + 1 + 1]? = some o3 ∧ w3.heap[w.heap.size + 1 + 1 + 1]? = some o4 := by
 have s1 : (w.alloc o1).heap.size = w.heap.size + 1 := Array.size_push _
 have s2 : ((w.alloc o1).alloc o2).heap.size = w.heap.size + 1 + 1 := (Array.size_push _).trans (by rw [s1])
 have s3 : (((w.alloc o1).alloc o2).alloc o3).heap.size = w.heap.size + 1 + 1 + 1 := (Array.size_push _).trans (by rw [s2])
 have k2 := blk_new (w.alloc o1) o2
 have k3 := blk_new ((w.alloc o1).alloc o2) o3
 have k4 := blk_new (((w.alloc o1).alloc o2).alloc o3) o4
 rw [s1] at k2
 rw [s2] at k3
 rw [s3] at k4
 subst hw3
 exact ⟨below_alloc (below_alloc (below_alloc (below_alloc (Below.refl _ _) _) _) _) _, (Array.size_push _).trans (by rw [s3]), blk_alloc (blk_alloc (blk_alloc (blk_new w _) _) _) _, blk_alloc (blk_alloc k2 _) _, blk_alloc k3 _, k4⟩


/-! ### compact_Range_AppendRange: function 61 -/
theorem run_neq_ptr_same {P : Program} {tp te : TypeId} {j : TypeInfo} (w : World) (a : Addr) (hp : P.underlying tp = some (.pointer te)) (hte : P.info? te = some j) :
  (binOp .neq tp (.pointer (some a)) (.pointer (some a))).run P w = .ok (.bool false) w := by
 have h : ∀ d : Nat, (Op.equalIn (d + 1) tp (.pointer (some a)) (.pointer (some a))).run P w = .ok true w := fun d => by
  simp [Op.equalIn, run_underlying hp, sizeOf, typeInfo, hte, run_sameAddr_same]
 simp only [binOp]
 simp [Op.equal, Op.maxDepth, h 9999]
theorem fact_ptr (a : Addr) (w : World) : (binOp .neq 97 (.pointer (some a)) (.pointer (some a))).run Tryd.prog w = .ok (.bool false) w := by
 have h : (Tryd.prog.info? 101).isSome = true := by kernel_rfl
 obtain ⟨j, hj⟩ := Option.isSome_iff_exists.mp h
 exact run_neq_ptr_same w a Tryd.underlying97 hj
/-- What is behind a range's first hash, in memory. -/
theorem rest_reads {B : Nat} {AO : Option Addr} {n cO : Nat} {yO : List (List Int)} (h1 : 0 < yO.length) (hc : yO.length ≤ cO) (hn : n = yO.length) : ∀ (W : World) (ok : Nat → Prop), (Kd.slice 5 (Kd.int .u8)).R 27 W B ok (.slice AO n cO) yO →
  ReadsRow (fun x c => (Kd.slice 5 (Kd.int .u8)).M W B ok x c) 1 W (if cO = 1 then AO else AO.map (·.add 1)) (yO.drop 1).length (yO.drop 1) := fun W ok h => by
 subst hn
 obtain ⟨A, c, he, hl, hr⟩ := OwnRow.reads h.2
 injection he with e1 e2 e3
 subst e1 e3
 exact row_drop (hr.imp_ (Below.refl _ _) (fun _ _ hp => (Kd.slice 5 (Kd.int .u8)).M_mono (fun _ hk => hk.1) hp)) h1 hc
/-- A range put behind another one: where it ends then, its hashes, and the nodes that are made. -/
def rgMerge (k : Nat) (a0 a1 a2 a3 a4 a5 : Int) (b m : Int) (L : List (List Int)) (b2 e2 : Int) (yO : List (List Int)) (vis : List S60) : Option (Int × List (List Int) × List S60) :=
 if b2 = m then (if yO.length < 1000000 then (if yO = [] then some (m, L, vis) else (rgApp k a0 a1 a2 a3 a4 a5 b m e2 L (yO.getD 0 []) (yO.drop 1) vis).bind fun r => some (e2, r.1, r.2)) else none) else none
set_option maxHeartbeats 16000000 in
set_option maxRecDepth 100000 in
theorem compact_Range_AppendRange.calls (k : Nat) (a0 a1 a2 a3 a4 a5 : Int) (B g g2 gf gb : Nat) (fh fv : Value) (b : Int) (m : Nat) (v : Value) (L : List (List Int)) (b2 e2 : Int) (vO : Value) (yO : List (List Int)) (vis : List S60) (m' : Int) (L' : List (List Int)) (vis' : List S60) (w : World)
  (hT : ∀ W, Below B w W → TabOK W) (hG : w.heap[g]? = some (.cells #[.pointer (some ⟨gf, 0, none⟩), .int .u64 b, .int .u64 (m : Int), v] 157 (0, 0))) (hg : B ≤ g) (hG2 : w.heap[g2]? = some (.cells #[.pointer (some ⟨gf, 0, none⟩), .int .u64 b2, .int .u64 e2, vO] 157 (0, 0))) (hF : w.heap[gf]? = some (.cells #[fh] 101 (0, 0)))
  (hfh : IsFn Tryd.prog fh 52 (.agg #[.int .i64 a0, .int .i64 a1, .int .i64 a2, .int .u64 a3, .int .u64 a4, .int .u64 a5])) (hfv : Vst fv B gb) (hV : Vs w B gb vis) (hB : B ≤ w.heap.size)
  (hR : (Kd.slice 5 (Kd.int .u8)).R 27 w B (fun _ => True) v L) (hO : (Kd.slice 5 (Kd.int .u8)).R 27 w B (fun k_ => some k_ ≠ v.ownBlock) vO yO)
  (h : rgMerge k a0 a1 a2 a3 a4 a5 b m L b2 e2 yO vis = some (m', L', vis')) :
  Calls Tryd.prog 61 #[.pointer (some ⟨g, 0, none⟩), .pointer (some ⟨g2, 0, none⟩), fv] w fun e' w' => e' = .returned .nilIface ∧
   ∃ v', w'.heap[g]? = some (.cells #[.pointer (some ⟨gf, 0, none⟩), .int .u64 b, .int .u64 m', v'] 157 (0, 0)) ∧ (Kd.slice 5 (Kd.int .u8)).R 27 w' B (fun _ => True) v' L' ∧ Vs w' B gb vis' ∧ Below B w w' ∧ FKeep (fun k_ => k_ = g ∨ some k_ = v.ownBlock) w w' := by
 unfold rgMerge at h
 by_cases hb : b2 = m
 case neg => rw [if_neg hb] at h; exact absurd h (by simp)
 rw [if_pos hb] at h
 by_cases hyl : yO.length < 1000000
 case neg => rw [if_neg hyl] at h; exact absurd h (by simp)
 rw [if_pos hyl] at h
 subst hb
 have hnf := fact_ptr
 have hne : (((m : Nat) : Int) != ((m : Nat) : Int)) = false := by simp
 obtain ⟨AO, cO, rfl⟩ := Kd.R_slice hO
 have q0 : w.cell? ⟨g, 0, none⟩ = some (.pointer (some ⟨gf, 0, none⟩)) := (blk_cell hG 0).trans rfl
 have q2 : w.cell? ⟨g, 2, none⟩ = some (.int .u64 (m : Int)) := (blk_cell hG 2).trans rfl
 have p0 : w.cell? ⟨g2, 0, none⟩ = some (.pointer (some ⟨gf, 0, none⟩)) := (blk_cell hG2 0).trans rfl
 have p1 : w.cell? ⟨g2, 1, none⟩ = some (.int .u64 (m : Int)) := (blk_cell hG2 1).trans rfl
 have p2 : w.cell? ⟨g2, 2, none⟩ = some (.int .u64 e2) := (blk_cell hG2 2).trans rfl
 have p3 : w.cell? ⟨g2, 3, none⟩ = some (.slice AO yO.length cO) := (blk_cell hG2 3).trans rfl
 have HYL := Aside0.mk hyl
 have HFV := Aside0.mk hfv
 obtain ⟨f, hfe⟩ := hfv.ne
 subst hfe
 have HT := Aside0.mk hT
 have HG := Aside0.mk hG
 have HF := Aside0.mk hF
 have HFH := Aside0.mk hfh
 have HV := Aside0.mk hV
 have HBB := Aside0.mk hB
 have HR := Aside0.mk hR
 have HO := Aside0.mk hO
 clear hT hG hF hfh hfv hV hB hR hO hG2 hyl
 by_cases hy : yO = []
 ·rw [if_pos hy] at h
  obtain ⟨rfl, rfl, rfl⟩ : (m : Int) = m' ∧ L = L' ∧ vis = vis' := by simpa using h
  clear h
  subst hy
  go_enter Tryd.func61, Tryd.ntmps61
  go_wp2
  go_quiet (fail)
  go_wp2
  go_quiet (fail)
  go_wp2
  go_ret
  refine ⟨rfl, v, ?_, ?_, ?_, ?_, ?_⟩
  ·first | exact HG.out | exact (show _ from HG.out)
  ·first | exact Kd.R_drewN (Kd.R_drewN HR.out _) _ | exact Kd.R_drewN HR.out _
  ·first | exact (HV.out.drewN _).drewN _ | exact HV.out.drewN _
  ·first | exact pw_below_drewN (pw_below_drewN (Below.refl _ _) _) _ | exact pw_below_drewN (Below.refl _ _) _
  ·first | exact ⟨Nat.le_refl _, fun _ _ h_ _ _ => h_⟩
 ·rw [if_neg hy] at h
  obtain ⟨r, hr, h⟩ := Option.bind_eq_some_iff.mp h
  obtain ⟨rfl, rfl, rfl⟩ : e2 = m' ∧ r.1 = L' ∧ r.2 = vis' := by simpa using h
  clear h
  have hpos : 0 < yO.length := List.length_pos_iff.2 hy
  obtain ⟨gh, cg, eA, hBg, hgl, cells, hcl⟩ := row_form2 (Kd.R_mono HO.out (fun _ _ => trivial)) hpos
  obtain ⟨rfl, rfl⟩ : AO = some ⟨gh, 0, none⟩ ∧ cO = cg := by injection eA with e1 e2 e3; exact ⟨e1, e3⟩
  obtain ⟨Ae, de, ecx, hE⟩ := row_elem2 (Kd.R_mono HO.out (fun _ _ => trivial)) 0 hpos
  obtain ⟨y0, hy0⟩ : ∃ y0, y0 = yO.getD 0 [] := ⟨_, rfl⟩
  rw [← hy0] at ecx hE hr
  have hcO := (Kd.R_reads' HO.out).2.1
  obtain ⟨i0, hi0, hz0⟩ := Option.map_eq_some_iff.1 info27
  simp only [Prod.mk.injEq] at hz0
  have hcut := cut_from 25 27 .i64 Tryd.underlying25 hi0 1 hz0.2.1 (some ⟨gh, 0, none⟩) yO.length cO 1 (by omega) (by omega)
  have hsrc := rest_reads (B := B) (AO := some ⟨gh, 0, none⟩) (n := yO.length) hpos hcO rfl
  rw [show (1 : Int).toNat = 1 from rfl] at hcut
  simp only [Nat.mul_one] at hcut
  generalize (if cO = 1 then (some (⟨gh, 0, none⟩ : Addr)) else Option.map (fun (x : Addr) => x.add 1) (some (⟨gh, 0, none⟩ : Addr))) = A1 at hcut hsrc
  have hdl : (yO.drop 1).length = yO.length - 1 := List.length_drop
  obtain ⟨ys, hys⟩ : ∃ ys, ys = yO.drop 1 := ⟨_, rfl⟩
  rw [← hys] at hr hsrc hdl
  rw [← hdl] at hcut
  have HSRC := Aside0.mk hsrc
  have HRR := Aside0.mk hr
  have HE := Aside0.mk hE
  have HCO := Aside0.mk (show ys.length ≤ cO - 1 by omega)
  have j1 : (0 : Int) < (yO.length : Int) := by omega
  have j2 : ¬ (yO.length : Int) = 0 := by omega
  have j3 : ((yO.length : Int) == 0) = false := by rw [beq_eq_false_iff_ne]; omega
  have j4 : ¬ yO.length = 0 := by omega
  clear eA hBg hgl hcl hE hy0 hi0 hz0 hsrc hdl hys hr hcO
  go_enter Tryd.func61, Tryd.ntmps61
  go_wp2
  go_quiet (fail)
  go_wp2
  generalize nq = n1
  go_quiet (fail)
  go_upto_region 8 with (fail)
  generalize nq = n2
  have hb2 : Below w.heap.size w (w.drewN (n1 + n2)) := pw_below_drewN (Below.refl _ _) _
  have HB2 := Aside0.mk (show Below B w (w.drewN (n1 + n2)).drew from below_drew (hb2.mono HBB.out))
  have HG2 := Aside0.mk (show (w.drewN (n1 + n2)).drew.heap[g]? = _ from HG.out)
  have HF2 := Aside0.mk (show (w.drewN (n1 + n2)).drew.heap[gf]? = _ from HF.out)
  have HV2 := Aside0.mk (show Vs (w.drewN (n1 + n2)).drew B gb vis from HV.out.below (below_drew hb2))
  have HR2 := Aside0.mk (Kd.R_drew (Kd.R_drewN HR.out (n1 + n2)))
  have HO2 := Aside0.mk (Kd.R_drew (Kd.R_drewN HO.out (n1 + n2)))
  have HE2 := Aside0.mk (Kd.R_mono (ok' := fun _ => True) (Kd.R_drew (Kd.R_drewN HE.out (n1 + n2))) (fun _ _ => trivial))
  have HS2 := Aside0.mk (show B ≤ (w.drewN (n1 + n2)).drew.heap.size from HBB.out)
  have HK2 := Aside0.mk (show VKeep w (w.drewN (n1 + n2)).drew from TKeep.of_below (below_drew hb2))
  replace p2 : (w.drewN (n1 + n2)).cell? ⟨g2, 2, none⟩ = some (.int .u64 e2) := p2
  replace p3 : (w.drewN (n1 + n2)).cell? ⟨g2, 3, none⟩ = some (.slice (some ⟨gh, 0, none⟩) yO.length cO) := p3
  replace ecx : (w.drewN (n1 + n2)).cell? ⟨gh, 0, none⟩ = some (.slice Ae y0.length de) := ecx
  clear hb2 q0 q2 p0 p1
  generalize w.drewN (n1 + n2) = w2 at *
  go_still_tail 17, (by kernel_rfl)
  go_wp2_with (go_at_call 93; (with_reducible refine (compact_Range_appendImpl.calls k a0 a1 a2 a3 a4 a5 B g gf gb fh _ b m e2 v L Ae de y0 A1 (cO - 1) ys (.slice (some ⟨gh, 0, none⟩) yO.length cO) yO vis r _ ?s1 HG2.out hg HF2.out HFH.out HFV.out HV2.out HS2.out HR2.out HE2.out HO2.out HSRC.out HCO.out HRR.out).mono ?_); (case s1 => exact HT.out _ HB2.out); rintro e' w10 ⟨rfl, v10, h1, h2, h3, h4, h5, h6⟩; have K1 := Aside0.mk h1; have K2 := Aside0.mk h2; have K3 := Aside0.mk h3; have K4 := Aside0.mk h4; have K5 := Aside0.mk h5; clear h1 h2 h3 h4 h5 h6)
  go_ret
  exact ⟨rfl, v10, K1.out, K2.out, K3.out, HB2.out.trans K4.out, FKeep.pre HK2.out K5.out⟩
theorem rgMerge_mono (a0 a1 a2 a3 a4 a5 b m : Int) (L : List (List Int)) (b2 e2 : Int) (yO : List (List Int)) (vis : List S60) (k : Nat) : LeO (rgMerge k a0 a1 a2 a3 a4 a5 b m L b2 e2 yO vis) (rgMerge (k + 1) a0 a1 a2 a3 a4 a5 b m L b2 e2 yO vis) := by
 unfold rgMerge
 exact LeO.ite (LeO.ite (LeO.ite (LeO.refl _) (LeO.bind (rgApp_mono _ _ _ _ _ _ _ _ _ _ _ _ _ k) (fun r => LeO.refl _))) (LeO.refl _)) (LeO.refl _)


/-! ### impl_fromNode: function 56 -/
def impl_fromNode.f (a0_0 : Int) (a0_1 : Int) : Option (Int × Int) := some (a0_0, a0_1)
set_option maxHeartbeats 8000000 in
set_option maxRecDepth 100000 in
theorem impl_fromNode.calls (a0_0 : Int) (a0_1 : Int) (r1 : Int) (r2 : Int) (w : World) (h : impl_fromNode.f a0_0 a0_1 = some (r1, r2)) :
  Calls Tryd.prog 56 #[.agg #[.int .u64 a0_0, .int .u64 a0_1]] w fun e w' => e = .returned (.agg #[.int .u64 r1, .int .u64 r2]) ∧ Below w.heap.size w w' := by
 have hu106 := Tryd.underlying106
 have hu54 := Tryd.underlying54
 have HB := Aside0.mk (Below.refl w.heap.size w)
 have H : (some (a0_0, a0_1)) = some (r1, r2) := h
 clear h
 simp only [Option.some.injEq, Prod.mk.injEq] at H
 obtain ⟨rfl, rfl⟩ := H
 go_enter Tryd.func56, Tryd.ntmps56
 go_wp2_with (first | ((with_reducible refine gate_dst (N := 1) rfl ?_); refine box_event ?hg (N := 1) ?hd (cs := #[.int .u64 a0_0, .int .u64 a0_1]) (t := 106) ?hr ?_; (case hd => rfl); (case hg => rfl); (case hr => first | (go_simp; done) | (go_simp; rfl)); intro gb238 hg w2 hbox hb; have n0_ := Aside0.mk (below_step bB hb); have n1_ := Aside0.mk (hbox); have n2_ := Aside0.mk ((by rw [hg]; exact (below_size bB) : w.heap.size ≤ gb238)); have n3_ := Aside0.mk ((by rw [hg]; exact (below_size bB) : w.heap.size ≤ gb238)); clear HB; have HB := n0_; have BK238 := n1_; have GW238 := n2_; have GE238 := n3_; clear n0_ n1_ n2_ n3_; clear hb hbox hg) | ((with_reducible refine gate_dst (N := 2) rfl ?_); refine box_event ?hg (N := 2) ?hd (cs := #[.int .u64 0, .int .u64 0]) (t := 54) ?hr ?_; (case hd => rfl); (case hg => rfl); (case hr => first | (go_simp; done) | (go_simp; rfl)); intro gb239 hg w3 hbox hb; have n0_ := Aside0.mk (blk_below (g := gb238) (o := .cells #[.int .u64 a0_0, .int .u64 a0_1] 106 (0, 0)) (kB BK238.out) hb); have n1_ := Aside0.mk (below_step bB hb); have n2_ := Aside0.mk (hbox); have n3_ := Aside0.mk ((by rw [hg]; exact (below_size bB) : w.heap.size ≤ gb239)); have n4_ := Aside0.mk ((by rw [hg]; exact (below_size bB) : w.heap.size ≤ gb239)); have n5_ := Aside0.mk ((by rw [hg]; exact Nat.ne_of_lt (blk_lt (g := gb238) (o := .cells #[.int .u64 a0_0, .int .u64 a0_1] 106 (0, 0)) (kB BK238.out)) : gb238 ≠ gb239)); have n6_ := Aside0.mk ((by rw [hg]; exact Nat.ne_of_gt (blk_lt (g := gb238) (o := .cells #[.int .u64 a0_0, .int .u64 a0_1] 106 (0, 0)) (kB BK238.out)) : gb239 ≠ gb238)); clear BK238; clear HB; have BK238 := n0_; have HB := n1_; have BK239 := n2_; have GW239 := n3_; have GE239 := n4_; have NB238_239 := n5_; have NB239_238 := n6_; clear n0_ n1_ n2_ n3_ n4_ n5_ n6_; clear hb hbox hg; have hnb4 := NB238_239.out; have hnc4 := NB239_238.out; have hcz5_0 : w3.cell? ⟨gb238, 0, none⟩ = some (.int .u64 a0_0) := (blk_cell BK238.out 0).trans rfl; have hcz5_1 : w3.cell? ⟨gb238, 1, none⟩ = some (.int .u64 a0_1) := (blk_cell BK238.out 1).trans rfl; have hfz5_0 := blk_frozen BK238.out 0; have hfz5_1 := blk_frozen BK238.out 1; have hcz6_0 : w3.cell? ⟨gb239, 0, none⟩ = some (.int .u64 0) := (blk_cell BK239.out 0).trans rfl; have hcz6_1 : w3.cell? ⟨gb239, 1, none⟩ = some (.int .u64 0) := (blk_cell BK239.out 1).trans rfl; have hfz6_0 := blk_frozen BK239.out 0; have hfz6_1 := blk_frozen BK239.out 1))
 refine bodyPost_ret (results_cell_row rfl _ _ gb239 54 #[.int .u64 a0_0, .int .u64 a0_1] (0, 0) _ rfl (by (with_reducible repeat (first | refine blk_drewN ?_ _ | refine blk_drew ?_ | refine blk_alloc ?_ _)); refine blk_put (cs := #[.int .u64 a0_0, .int .u64 0]) ?_ 1 _ rfl; (with_reducible repeat (first | refine blk_drewN ?_ _ | refine blk_drew ?_ | refine blk_alloc ?_ _)); refine blk_put (cs := #[.int .u64 0, .int .u64 0]) ?_ 0 _ rfl; (with_reducible repeat (first | refine blk_drewN ?_ _ | refine blk_drew ?_ | refine blk_alloc ?_ _)); exact BK239.out) Tryd.underlying54 rfl (by kernel_rfl)) rfl ?_
 exact ⟨by first | rfl | (simp [errW_none, errW_some] <;> rfl) | (simp [*, errW_none, errW_some] <;> rfl), bB⟩


/-! ### impl_AppendRange: function 27 -/
set_option maxHeartbeats 16000000 in
set_option maxRecDepth 100000 in
theorem impl_AppendRange1.calls (B gb : Nat) (vs : Value) (vis : List S60) (lv ix : Int) (A : Option Addr) (c : Nat) (hash : List Int) (w : World)
  (hbx : w.heap[gb]? = some (.cells #[vs] 42 (0, 0))) (hgb : B ≤ gb) (hB : B ≤ w.heap.size) (hR : k60.R 60 w B (fun _ => True) vs vis)
  (hC : (Kd.int .u8).C w A hash.length hash) (hc : hash.length ≤ c) (hl1 : hash.length < 140737488355328) (hl2 : vis.length < 1000000000) :
  Calls Tryd.prog 62 #[.agg #[.int .u64 lv, .int .u64 ix], .slice A hash.length c, .pointer (some ⟨gb, 0, none⟩)] w fun e w' => e = .returned (.tuple #[]) ∧
   ∃ vs', w'.heap[gb]? = some (.cells #[vs'] 42 (0, 0)) ∧ k60.R 60 w' B (fun _ => True) vs' (vis ++ [⟨⟨lv, ix⟩, hash⟩]) ∧ Below B w w' ∧ TKeep 42 60 w w' := by
 obtain ⟨w1, hw1⟩ : ∃ w1, w1 = w.alloc (.cells #[.int .u64 lv, .int .u64 ix] 106) := ⟨_, rfl⟩
 have hb1 : Below w.heap.size w w1 := by rw [hw1]; exact below_alloc (Below.refl _ _) _
 have hk1 : w1.heap[w.heap.size]? = some (.cells #[.int .u64 lv, .int .u64 ix] 106 (0, 0)) := by rw [hw1]; exact blk_new w _
 have q0 : w1.cell? ⟨w.heap.size, 0, none⟩ = some (.int .u64 lv) := (blk_cell hk1 0).trans rfl
 have q1 : w1.cell? ⟨w.heap.size, 1, none⟩ = some (.int .u64 ix) := (blk_cell hk1 1).trans rfl
 have hbx1 := blk_below hbx hb1
 have q2 : w1.cell? ⟨gb, 0, none⟩ = some vs := (blk_cell hbx1 0).trans rfl
 have hgx : gb < w.heap.size := blk_lt hbx
 have ne1 : w.heap.size < w1.heap.size := blk_lt hk1
 have ne2 : gb < w1.heap.size := blk_lt hbx1
 have HR1 := Aside0.mk (Kd.R_below hR hb1)
 have HC1 := Aside0.mk (Kd.C_below hC hb1)
 have HBX := Aside0.mk hbx1
 have HB1 := Aside0.mk (hb1.mono hB)
 have HTK := Aside0.mk (TKeep.of_below (t1 := 42) (t2 := 60) hb1)
 have HBW := Aside0.mk (Nat.le_trans hB hb1.size)
 have HGX := Aside0.mk hgx
 obtain ⟨Av, cv, rfl⟩ := Kd.R_slice hR
 have HL2 := Aside0.mk hl2
 have HL1 := Aside0.mk hl1
 clear hR hC hbx hbx1 hb1 hk1 hB hl1 hl2 hgx
 go_enter Tryd.func62, Tryd.ntmps62
 go_upto_region 1 with (fail)
 rw [← hw1]
 clear hw1
 generalize w.heap.size = gx at *
 go_region_law
  (first
   | (go_simp; go_at_call 56; (with_reducible refine (impl_fromNode.calls lv ix lv ix _ rfl).mono ?_); rintro e' w7 ⟨rfl, hb7⟩; have HB7 := Aside0.mk (show Below w1.heap.size w1 w7 from below_step (by repeat (first | (with_reducible exact Below.refl _ _) | apply below_alloc | apply below_drew)) hb7); have c7 : w7.cell? ⟨gb, 0, none⟩ = some (.slice Av vis.length cv) := (blk_cell (blk_below HBX.out HB7.out) 0).trans rfl; have n7 : gb < w7.heap.size := blk_lt (blk_below HBX.out HB7.out); have HBx7 := Aside0.mk hb7; clear hb7)
   | (refine Kd.R_append_step k60 (w0 := w1) B ?hw (.tmp 5) (.tmp 12) 42 60 (.agg #[(.int .u64 0), (.int .u64 0), (.slice none 0 0)]) 40 ?ho Tryd.underlying42 info_visit (by rfl) (by decide) (by omega) (.slice Av vis.length cv) vis ⟨⟨lv, ix⟩, hash⟩ [.int .u64 lv, .int .u64 ix, .slice A10 ([] ++ hash).length cc10] (fun _ => True) (fun k_ => some k_ ≠ (Value.slice Av vis.length cv).ownBlock) ?hs ?hx ?bM (fun _ h_ => ⟨trivial, h_⟩) (fun _ _ => trivial) ?bO ?bB ?bS ?bL ?_; (case ho => rfl); (case hw => rfl); (case hs => rfl); (case hx => rfl); (case bM => exact k60_mkM _ _ _ ⟨⟨lv, ix⟩, hash⟩ (Kd.R_mono (Kd.R_lower (Kd.R_apart' HR10.out (Kd.R_typed (Kd.R_below HR1.out HB10.out)) (by decide)) HBW.out) (fun _ h_ => h_.2))); (case bO => exact Kd.R_below HR1.out HB10.out); (case bB => exact HB10.out.mono HBW.out); (case bS => exact Nat.le_trans HBW.out HB10.out.size); (case bL => have := HL2.out; omega); intro v13 w13 hr13 hb13 hg13 hat13; have k13 := blk_grown (blk_below HBX.out HB10.out) hg13 (Kd.R_ne (Kd.R_below HR1.out HB10.out) (blk_below HBX.out HB10.out) (by decide)); have HK13 := Aside0.mk k13; have c13 : w13.cell? ⟨gb, 0, none⟩ = some (.slice Av vis.length cv) := (blk_cell k13 0).trans rfl; have f13 := blk_frozen k13 0; have HR13 := Aside0.mk hr13; have HB13 := Aside0.mk hb13; have HT13 := Aside0.mk ((HTK.out.below HB10.out).grown hg13 (fun k hk => by obtain ⟨cs_, hcs_⟩ := Kd.R_typed (Kd.R_below HR1.out HB10.out) k hk; exact ⟨_, hcs_, cs_, _, .inr rfl⟩)); obtain ⟨A13, cc13, rfl⟩ := Kd.R_slice hr13; clear k13 hr13 hb13 hg13 hat13)
   | (refine Kd.R_append_rows_step (Kd.int .u8) (w0 := w1) w1.heap.size ?hw (.tmp 8) (.tmp 9) 27 5 (.int .u8 0) 1 rfl Tryd.underlying27 info5 (by rfl) (by decide) (by omega) _ [] hash A hash.length c (fun _ => True) (fun _ => False) rfl rfl ?aO ?aR (fun _ _ h => h) (fun _ h => h.elim) (fun _ _ => trivial) ?aB ?aS ?aL ?_; (case hw => rfl); (case aR => first | exact Kd.C_below HC1.out HB7.out | exact Kd.C_alloc (Kd.C_below HC1.out HB7.out) _); (case aB => repeat (first | (with_reducible exact HB7.out) | apply below_alloc | apply below_drew)); (case aO => first | (refine emptyR _ _ ?_; exact HB7.out.size) | exact Kd.R_below (Kd.R_drew (emptyR w1 _ (Nat.le_refl _))) HBx7.out | exact Kd.R_below (emptyR w1.drew _ (Nat.le_refl _)) HBx7.out); (case aS => first | exact HB7.out.size | exact (below_alloc HB7.out _).size); (case aL => simp only [List.length_nil, Nat.zero_add]; have := HL1.out; omega); intro v10 w10 hr10 hb10 hg10 hat10; have HR10 := Aside0.mk hr10; have HB10 := Aside0.mk hb10; have c10 : w10.cell? ⟨gb, 0, none⟩ = some (.slice Av vis.length cv) := (blk_cell (blk_below HBX.out HB10.out) 0).trans rfl; have n10 : gb < w10.heap.size := blk_lt (blk_below HBX.out HB10.out); obtain ⟨A10, cc10, rfl⟩ := Kd.R_slice hr10; clear hr10 hb10 hg10 hat10))
 all_goals
  go_wp2
  go_end0
  have e13 : (vis ++ [(⟨⟨lv, ix⟩, hash⟩ : S60)]).length = vis.length + 1 := by simp
  have hs13 := Kd.R_set HR13.out HK13.out (by decide) 0 (.slice A13 (vis ++ [(⟨⟨lv, ix⟩, hash⟩ : S60)]).length cc13)
  rw [e13] at hs13
  exact ⟨rfl, _, blk_put HK13.out 0 _ rfl, hs13, (HB1.out.trans HB13.out).setCell hgb _, HT13.out.set HK13.out ⟨_, _, .inl rfl⟩ _⟩
def impl_AppendRange.f (k : Nat) (a0_0 a0_1 a0_2 a0_3 a0_4 a0_5 : Int) (a1_0 a1_1 : Int) (l1_2 : List (List Int)) (a2_0 a2_1 : Int) (l2_2 : List (List Int)) : Option (Int × Int × List (List Int) × List S60 × Bool) :=
 (impl_texts.f k l1_2).bind fun x => if rgNew a1_0 a1_1 x then (impl_texts.f k l2_2).bind fun y => if rgNew a2_0 a2_1 y then (rgMerge k a0_0 a0_1 a0_2 a0_3 a0_4 a0_5 a1_0 a1_1 x a2_0 a2_1 y []).bind fun r => (impl_texts.f k r.2.1).bind fun z => some (a1_0, r.1, z, r.2.2, true) else none else none
theorem impl_AppendRange.mono : ∀ a0 a1 a2 a3 a4 a5 a6 a7 a8 a9 a10 a11 k, LeO (impl_AppendRange.f k a0 a1 a2 a3 a4 a5 a6 a7 a8 a9 a10 a11) (impl_AppendRange.f (k + 1) a0 a1 a2 a3 a4 a5 a6 a7 a8 a9 a10 a11) := by
 intro a0 a1 a2 a3 a4 a5 a6 a7 a8 a9 a10 a11 k
 unfold impl_AppendRange.f
 exact LeO.bind (impl_texts.mono _ _) (fun x => LeO.ite (LeO.bind (impl_texts.mono _ _) (fun y => LeO.ite (LeO.bind (rgMerge_mono _ _ _ _ _ _ _ _ _ _ _ _ _ k) (fun r => LeO.bind (impl_texts.mono _ _) (fun z => LeO.refl _))) (LeO.refl _))) (LeO.refl _))
theorem five_blocks (w : World) (o0 o1 o2 o3 o4 : Obj) (w3 : World) (hw3 : w3 = ((((w.alloc o0).alloc o1).alloc o2).alloc o3).alloc o4) :
  Below w.heap.size w w3 ∧ w3.heap.size = w.heap.size + 5 ∧ w3.heap[w.heap.size + 1]? = some o1 ∧ w3.heap[w.heap.size + 1 + 1]? = some o2 ∧ w3.heap[w.heap.size + 1 + 1 + 1]? = some o3 ∧ w3.heap[w.heap.size + 1 + 1 + 1 + 1]? = some o4 := by
 have s1 : (w.alloc o0).heap.size = w.heap.size + 1 := Array.size_push _
 obtain ⟨h1, h2, h3, h4, h5, h6⟩ := four_blocks (w.alloc o0) o1 o2 o3 o4 w3 hw3
 rw [s1] at h2 h3 h4 h5 h6
 exact ⟨(below_alloc (Below.refl _ _) o0).trans (h1.mono (by rw [s1]; omega)), by omega, h3, h4, h5, h6⟩
theorem vst_appendRange (B gb : Nat) (hgb : B ≤ gb) : Vst (.func (.func 62) #[] #[.pointer (some ⟨gb, 0, none⟩)]) B gb :=
 ⟨_, rfl, isFc_func Tryd.func62 (by kernel_rfl) rfl _, fun vis lv ix A c hash w hV hB hC hc hl1 hl2 => by
  obtain ⟨vs, hbx, hR⟩ := hV
  refine (impl_AppendRange1.calls B gb vs vis lv ix A c hash w hbx hgb hB hR hC hc hl1 hl2).mono ?_
  rintro e w' ⟨rfl, vs', h1, h2, h3, h4⟩
  exact ⟨rfl, ⟨vs', h1, h2⟩, h3, h4⟩⟩
set_option maxHeartbeats 16000000 in
set_option maxRecDepth 100000 in
theorem impl_AppendRange.calls (k : Nat) (a0_0 a0_1 a0_2 a0_3 a0_4 a0_5 : Int) (a1_0 a1_1 : Int) (A1_2 : Option Addr) (c1_2 : Nat) (l1_2 : List (List Int)) (a2_0 a2_1 : Int) (A2_2 : Option Addr) (c2_2 : Nat) (l2_2 : List (List Int)) (r0 r1 : Int) (r2 : List (List Int)) (r3 : List S60) (r4 : Bool) (w : World) (hT : TabOK w)
  (hr1_2 : Kd.C (Kd.slice 5 (Kd.int .u8)) w A1_2 l1_2.length l1_2) (hc1_2 : l1_2.length ≤ c1_2) (hr2 : Kd.C (Kd.slice 5 (Kd.int .u8)) w A2_2 l2_2.length l2_2) (hc2 : l2_2.length ≤ c2_2) (h : impl_AppendRange.f k a0_0 a0_1 a0_2 a0_3 a0_4 a0_5 a1_0 a1_1 l1_2 a2_0 a2_1 l2_2 = some (r0, r1, r2, r3, r4)) :
  Calls Tryd.prog 27 #[.agg #[.int .i64 a0_0, .int .i64 a0_1, .int .i64 a0_2, .int .u64 a0_3, .int .u64 a0_4, .int .u64 a0_5], .agg #[.int .u64 a1_0, .int .u64 a1_1, .slice A1_2 l1_2.length c1_2], .agg #[.int .u64 a2_0, .int .u64 a2_1, .slice A2_2 l2_2.length c2_2]] w fun e w' =>
   ∃ v0 v1, e = .returned (.tuple #[.agg #[.int .u64 r0, .int .u64 r1, v0], v1, .bool r4]) ∧ Kd.S (Kd.slice 5 (Kd.int .u8)) 27 w' w.heap.size (fun _ => True) v0 r2 ∧ k60.R 60 w' w.heap.size (fun _ => True) v1 r3 ∧ Below w.heap.size w w' := by
 have hmf := fact_func
 unfold impl_AppendRange.f at h
 obtain ⟨x, hx, h⟩ := Option.bind_eq_some_iff.mp h
 by_cases hn : rgNew a1_0 a1_1 x
 case neg => rw [if_neg hn] at h; exact absurd h (by simp)
 rw [if_pos hn] at h
 obtain ⟨hbe, hsz, he0, he1⟩ := hn
 obtain ⟨m0, rfl⟩ := Int.eq_ofNat_of_zero_le he0
 obtain ⟨y, hy, h⟩ := Option.bind_eq_some_iff.mp h
 by_cases hn : rgNew a2_0 a2_1 y
 case neg => rw [if_neg hn] at h; exact absurd h (by simp)
 rw [if_pos hn] at h
 obtain ⟨hbe2, hsz2, _, _⟩ := hn
 obtain ⟨⟨m1, L1, vis1⟩, hf, h⟩ := Option.bind_eq_some_iff.mp h
 obtain ⟨z, hz, h⟩ := Option.bind_eq_some_iff.mp h
 obtain ⟨rfl, rfl, rfl, rfl, rfl⟩ : a1_0 = r0 ∧ m1 = r1 ∧ z = r2 ∧ vis1 = r3 ∧ true = r4 := by simpa using h
 have HC1 := Aside0.mk hc1_2
 have HC2 := Aside0.mk hc2
 have HX := Aside0.mk hx
 have HY := Aside0.mk hy
 have HZ := Aside0.mk hz
 have HFO := Aside0.mk hf
 have HBE := Aside0.mk hbe
 have HSZ := Aside0.mk hsz
 have HBE2 := Aside0.mk hbe2
 have HSZ2 := Aside0.mk hsz2
 have HT := Aside0.mk hT
 clear hx hy hz hf hbe hsz hbe2 hsz2 he0 h hT hc1_2 hc2
 obtain ⟨w3, hw3⟩ : ∃ w3, w3 = ((((w.alloc (.cells #[.int .i64 a0_0, .int .i64 a0_1, .int .i64 a0_2, .int .u64 a0_3, .int .u64 a0_4, .int .u64 a0_5] 24)).alloc (.cells #[.int .u64 a1_0, .int .u64 (m0 : Int), .slice A1_2 l1_2.length c1_2] 39)).alloc (.cells #[.int .u64 a2_0, .int .u64 a2_1, .slice A2_2 l2_2.length c2_2] 39)).alloc (.cells #[.int .u64 0, .int .u64 0, .slice none 0 0] 39)).alloc (.cells #[.func (.func 52) #[.agg #[.int .i64 a0_0, .int .i64 a0_1, .int .i64 a0_2, .int .u64 a0_3, .int .u64 a0_4, .int .u64 a0_5]] #[]] 101) := ⟨_, rfl⟩
 obtain ⟨hb3, hs3, hk1, hkb, hk2, hk3⟩ := five_blocks w _ _ _ _ _ w3 hw3
 have HB3 := Aside0.mk hb3
 have HS3 := Aside0.mk hs3
 have HK2 := Aside0.mk hk2
 have HK3 := Aside0.mk hk3
 have HKB := Aside0.mk hkb
 have HQ := Aside0.mk (HeldR.of hk1)
 have HR1 := Aside0.mk (Kd.C_below hr1_2 hb3)
 have HR2 := Aside0.mk (Kd.C_below hr2 hb3)
 obtain ⟨q0, q1, q2⟩ := HQ.out
 have HFH := Aside0.mk (isFn_func Tryd.func52 (by kernel_rfl) rfl (.agg #[.int .i64 a0_0, .int .i64 a0_1, .int .i64 a0_2, .int .u64 a0_3, .int .u64 a0_4, .int .u64 a0_5]) : IsFn Tryd.prog (.func (.func 52) #[.agg #[.int .i64 a0_0, .int .i64 a0_1, .int .i64 a0_2, .int .u64 a0_3, .int .u64 a0_4, .int .u64 a0_5]] #[]) 52 (.agg #[.int .i64 a0_0, .int .i64 a0_1, .int .i64 a0_2, .int .u64 a0_3, .int .u64 a0_4, .int .u64 a0_5]))
 clear hb3 hs3 hk1 hkb hk2 hk3 hr1_2 hr2
 go_enter Tryd.func27, Tryd.ntmps27
 go_upto_region 2 with (fail)
 rw [← hw3]
 clear hw3
 have HGF := Aside0.mk (show w.heap.size ≤ w.heap.size + 1 + 1 + 1 + 1 by omega)
 have HGR := Aside0.mk (show w.heap.size ≤ w.heap.size + 1 + 1 + 1 by omega)
 have HGC := Aside0.mk (show w.heap.size + 1 + 1 < w3.heap.size by rw [HS3.out]; omega)
 have HGA := Aside0.mk (show w.heap.size + 1 < w3.heap.size by rw [HS3.out]; omega)
 have HW3 := Aside0.mk (show w.heap.size ≤ w3.heap.size by rw [HS3.out]; omega)
 generalize hgw : w.heap.size = gw at *
 have HGW := Aside0.mk hgw
 clear hgw HS3
 generalize gw + 1 + 1 + 1 + 1 = gf at *
 generalize gw + 1 + 1 + 1 = gr at *
 generalize gw + 1 + 1 = gc at *
 generalize gw + 1 = ga at *
 go_region_held3 (fun w' => w'.cell? ⟨ga, 0, none⟩ = some (.int .u64 a1_0) ∧ w'.cell? ⟨ga, 1, none⟩ = some (.int .u64 (m0 : Int)) ∧ w'.cell? ⟨ga, 2, none⟩ = some (.slice A1_2 l1_2.length c1_2)) (first | exact HS7.out | exact HS6.out | go_keep)
  (first
   | (go_at_call 46; (with_reducible refine (impl_texts.calls k A1_2 c1_2 l1_2 x _ ?side1 HC1.out HX.out).mono ?_); (case side1 => first | exact HR1.out | exact Kd.C_drew HR1.out | exact Kd.C_drewN HR1.out _); rintro e' w6 ⟨v6, rfl, hS6, hB6⟩; have hR6 := Kd.S_R hS6; obtain ⟨A6, c6, rfl⟩ := Kd.R_slice hR6; have hb6 : Below w3.heap.size w3 w6 := (by first | exact hB6 | exact below_step (below_drew (Below.refl _ _)) hB6 | exact below_step (pw_below_drewN (Below.refl _ _) _) hB6); have HB6 := Aside0.mk hb6; have HS6 := Aside0.mk (HQ.out.below hb6 HGA.out); have HX6 := Aside0.mk hR6; clear hS6 hB6 hb6 hR6)
   | (go_at_call 53; (with_reducible refine (compact_NewRange.good _ a1_0 (m0 : Int) A6 x.length c6 _ HBE.out HSZ.out).mono ?_); rintro e' w7 ⟨g7, rfl, hg7, hR7, hB7⟩; have HX7 := Aside0.mk (Kd.R_lower (by first | exact Kd.R_below HX6.out hB7 | exact Kd.R_below (Kd.R_drew HX6.out) hB7 | exact Kd.R_below (Kd.R_drewN HX6.out _) hB7) HW3.out : (Kd.slice 5 (Kd.int .u8)).R 27 w7 gw (fun _ => True) (.slice A6 x.length c6) x); have HB7 := Aside0.mk (by first | exact below_step HB6.out hB7 | exact below_step (below_drew HB6.out) hB7 | exact below_step (pw_below_drewN HB6.out _) hB7 : Below w3.heap.size w3 w7); have HS7 := Aside0.mk (HQ.out.below HB7.out HGA.out); have HR7 := Aside0.mk hR7; have HG7 := Aside0.mk (Nat.le_trans HW3.out (Nat.le_trans HB6.out.size (by first | exact hg7 | exact Nat.le_trans (Nat.le_refl _) hg7))); clear hB7 hR7 hg7))
 all_goals
  clear q0 q1 q2 HQ HS7 HS6 HX6 HGA
  have HW7 := Aside0.mk (Nat.le_trans HW3.out HB7.out.size)
  have HR27 := Aside0.mk (Kd.C_below HR2.out HB7.out)
  have HQ2 := Aside0.mk (HeldR.of (blk_below HKB.out HB7.out))
  have HGC7 := Aside0.mk (Nat.lt_of_lt_of_le HGC.out HB7.out.size)
  obtain ⟨q0, q1, q2⟩ := HQ2.out
  clear HB6 HKB HGC
  go_wp2
  go_region_held3 (fun w' => w'.cell? ⟨gc, 0, none⟩ = some (.int .u64 a2_0) ∧ w'.cell? ⟨gc, 1, none⟩ = some (.int .u64 a2_1) ∧ w'.cell? ⟨gc, 2, none⟩ = some (.slice A2_2 l2_2.length c2_2)) (first | exact HS9.out | exact HS8.out | go_keep)
   (first
    | (go_at_call 46; (with_reducible refine (impl_texts.calls k A2_2 c2_2 l2_2 y _ ?side1 HC2.out HY.out).mono ?_); (case side1 => first | exact HR27.out | exact Kd.C_drew HR27.out | exact Kd.C_drewN HR27.out _); rintro e' w8 ⟨v8, rfl, hS8, hB8⟩; have hR8 := Kd.S_R hS8; obtain ⟨A8, c8, rfl⟩ := Kd.R_slice hR8; have hb8 : Below w7.heap.size w7 w8 := (by first | exact hB8 | exact below_step (below_drew (Below.refl _ _)) hB8 | exact below_step (pw_below_drewN (Below.refl _ _) _) hB8); have HB8 := Aside0.mk hb8; have HS8 := Aside0.mk (HQ2.out.below hb8 HGC7.out); have HY8 := Aside0.mk (show (Kd.slice 5 (Kd.int .u8)).R 27 w8 w7.heap.size (fun _ => True) (.slice A8 y.length c8) y from hR8); clear hS8 hB8 hb8 hR8)
    | (go_at_call 53; (with_reducible refine (compact_NewRange.good _ a2_0 a2_1 A8 y.length c8 _ HBE2.out HSZ2.out).mono ?_); rintro e' w9 ⟨g9, rfl, hg9, hR9, hB9⟩; have HY9 := Aside0.mk (by first | exact Kd.R_below HY8.out hB9 | exact Kd.R_below (Kd.R_drew HY8.out) hB9 | exact Kd.R_below (Kd.R_drewN HY8.out _) hB9 : (Kd.slice 5 (Kd.int .u8)).R 27 w9 w7.heap.size (fun _ => True) (.slice A8 y.length c8) y); have HB9 := Aside0.mk (by first | exact below_step HB8.out hB9 | exact below_step (below_drew HB8.out) hB9 | exact below_step (pw_below_drewN HB8.out _) hB9 : Below w7.heap.size w7 w9); have HS9 := Aside0.mk (HQ2.out.below HB9.out HGC7.out); have HR9 := Aside0.mk hR9; clear hB9 hR9 hg9))
  all_goals
   clear q0 q1 q2 HQ2 HS9 HS8 HY8 HGC7 HB8
   go_upto_region 9 with (((with_reducible refine gate_dst (N := 13) rfl ?_); refine box_event ?hg (N := 13) ?hd (cs := #[.slice none 0 0]) (t := 42) ?hr ?_; (case hd => rfl); (case hg => rfl); (case hr => first | (go_simp; done) | (go_simp; rfl)); intro gb hgb w10 hbox hb; have HBX := Aside0.mk hb; have HX10 := Aside0.mk hbox; have HGB0 := Aside0.mk (Nat.le_of_eq hgb.symm); clear hb hbox hgb))
   have HB10 := Aside0.mk (show Below w7.heap.size w7 w10 from by first | exact HB9.out.trans (HBX.out.mono HB9.out.size))
   have HGB := Aside0.mk (Nat.le_trans HW7.out (Nat.le_trans HB9.out.size HGB0.out))
   have HV10 := Aside0.mk (show Vs w10 gw gb [] from ⟨.slice none 0 0, HX10.out, Kd.R_nil _ _ _ _ _⟩)
   have HG10 := Aside0.mk (RgB.below HR7.out HB10.out)
   have HH10 := Aside0.mk (RgB.below HR9.out HBX.out)
   have HX11 := Aside0.mk (Kd.R_below HX7.out HB10.out)
   have HY10 := Aside0.mk (Kd.R_mono (ok' := fun k_ => some k_ ≠ (Value.slice A6 x.length c6).ownBlock) (Kd.R_lower (Kd.R_new' (Kd.R_below HY9.out HBX.out) (Kd.R_lt HX7.out)) HW7.out) (fun _ h_ => h_.2))
   have HK210 := Aside0.mk (blk_below (blk_below HK2.out HB7.out) HB10.out)
   have HK310 := Aside0.mk (blk_below (blk_below HK3.out HB7.out) HB10.out)
   have HB := Aside0.mk (show Below gw w w10 from (HB3.out.trans (HB7.out.mono HW3.out)).trans (HB10.out.mono HW7.out))
   unfold RgB at HG10 HH10
   go_wp2_with (go_at_call 61; (with_reducible refine (compact_Range_AppendRange.calls k a0_0 a0_1 a0_2 a0_3 a0_4 a0_5 gw g7 g9 gf gb _ _ a1_0 m0 (.slice A6 x.length c6) x a2_0 a2_1 (.slice A8 y.length c8) y [] m1 L1 vis1 _ ?s1 HG10.out HG7.out HH10.out HK310.out HFH.out ?s2 HV10.out ?s3 HX11.out HY10.out HFO.out).mono ?_); (case s1 => exact fun W hW => TabOK.below HT.out (by rw [HGW.out]; exact HB.out.trans hW)); (case s2 => exact vst_appendRange gw gb HGB.out); (case s3 => exact Nat.le_trans HW7.out HB10.out.size); rintro e' w11 ⟨rfl, v11, h1, h2, h3, h4, h5⟩; have K1 := Aside0.mk h1; have K2 := Aside0.mk h2; have K3 := Aside0.mk h3; have K4 := Aside0.mk h4; have K5 := Aside0.mk h5; clear h1 h2 h3 h4 h5)
   have HKR := Aside0.mk (blk_kept' K5.out HG10.out HX11.out HK210.out (by decide) (by decide) (by decide) (by decide))
   have HXL := K2
   have HB11 := Aside0.mk (HB.out.trans K4.out)
   obtain ⟨vs, hvb, hvR⟩ := K3.out
   obtain ⟨Av, cv, rfl⟩ := Kd.R_slice hvR
   obtain ⟨AL, cL, rfl⟩ := Kd.R_slice HXL.out
   have HVB := Aside0.mk hvb
   have HVR := Aside0.mk hvR
   have qs : w11.cell? ⟨gb, 0, none⟩ = some (.slice Av vis1.length cv) := (blk_cell hvb 0).trans rfl
   have hgr := HKR.out
   have hne : ¬ gr = gb := blk_ne hgr hvb (by decide)
   have HNE := Aside0.mk hne
   have HXC := Aside0.mk (Kd.R_reads' HXL.out).2
   clear hvb hvR hgr
   go_region_held3 (fun w' => w'.cell? ⟨gb, 0, none⟩ = some (.slice Av vis1.length cv)) (first | exact HS7.out | exact qs | (exact cell_far (cell_far (cell_far HS7.out HNE.out) HNE.out) HNE.out) | go_keep)
    (first
     | (go_at_call 57; (with_reducible refine (impl_fromRange.calls k g7 (.pointer (some ⟨gf, 0, none⟩)) a1_0 m1 AL cL L1 z _ ?s1 ?s2 HXC.out.1 HZ.out).mono ?_); (case s1 => exact (show w11.drew.heap[g7]? = _ from K1.out)); (case s2 => exact Kd.C_drew HXC.out.2); rintro e' w7 ⟨v7, rfl, hS7, hB7⟩; obtain ⟨A7, c7, rfl⟩ := Kd.S_slice hS7; have hb7 := below_step (below_drew (Below.refl w11.heap.size w11)) hB7; have HB7 := Aside0.mk hb7; have HR7 := Aside0.mk hS7; have hk7 := blk_below HKR.out hb7; have HK7 := Aside0.mk hk7; have HS7 := Aside0.mk (show w7.cell? ⟨gb, 0, none⟩ = some (.slice Av vis1.length cv) from (blk_cell (blk_below HVB.out hb7) 0).trans rfl); have fz0 := blk_frozen hk7 0; have fz1 := blk_frozen hk7 1; have fz2 := blk_frozen hk7 2; have cl0 : w7.cell? ⟨gr, 0, none⟩ = some (.int .u64 0) := (blk_cell hk7 0).trans rfl; have cl1 : w7.cell? ⟨gr, 1, none⟩ = some (.int .u64 0) := (blk_cell hk7 1).trans rfl; have cl2 : w7.cell? ⟨gr, 2, none⟩ = some (.slice none 0 0) := (blk_cell hk7 2).trans rfl; clear hS7 hB7 hb7 hk7))
   all_goals
    go_wp2
    have b0 := blk_put HK7.out 0 (.int .u64 a1_0) rfl
    have b1 := blk_put b0 1 (.int .u64 m1) rfl
    have b2 := blk_put b1 2 (.slice A7 z.length c7) rfl
    refine bodyPost_ret (results_list (rs := [.cell 6 39, .tmp 7, .tmp 8]) rfl (by simp) (.cell gr 39 #[.int .u64 a1_0, .int .u64 m1, .slice A7 z.length c7] (0, 0) _ rfl b2 Tryd.underlying39 rfl (by kernel_rfl) (.tmp (.tmp .nil)))) rfl ?_
    have hgw := HGW.out
    subst hgw
    have hw11 : w.heap.size ≤ w11.heap.size := HB11.out.size
    exact ⟨_, _, rfl, Kd.S_lower (Kd.S_set (Kd.S_set (Kd.S_set HR7.out HK7.out (by decide) 0 _) b0 (by decide) 1 _) b1 (by decide) 2 _) hw11,
     Kd.R_set (Kd.R_set (Kd.R_set (Kd.R_below HVR.out HB7.out) HK7.out (by decide) 0 _) b0 (by decide) 1 _) b1 (by decide) 2 _,
     (((HB11.out.trans (HB7.out.mono hw11)).setCell HGR.out _).setCell HGR.out _).setCell HGR.out _⟩

end Go.Proofs.YtkmdkmlgahfcpaaDoor.M

