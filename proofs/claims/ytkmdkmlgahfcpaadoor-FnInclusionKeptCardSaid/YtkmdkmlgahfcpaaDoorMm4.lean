import Derived.Test.YtkmdkmlgahfcpaaDoorSr
import Derived.Test.YtkmdkmlgahfcpaaDoorMm1
import Derived.Test.YtkmdkmlgahfcpaaDoorMm2
import Derived.Test.YtkmdkmlgahfcpaaDoorMm3
namespace Go.Proofs.YtkmdkmlgahfcpaaDoor.M
open Go.RowKit Go.Proofs.YtkmdkmlgahfcpaaDoorW.PrintWords Go.Proofs.YtkmdkmlgahfcpaaDoorW.PrintLast Go.Proofs.YtkmdkmlgahfcpaaDoorW.PrintMore
attribute [local go_sem] max2_int min2_int max_two min_two max_three min_three max_four min_four
set_option linter.unusedVariables false
set_option linter.unusedSimpArgs false
theorem info_visit : (Tryd.prog.info? 60).map (fun i => (i.zero, i.size, i.bytes)) = some (some (.agg #[(.int .u64 0), (.int .u64 0), (.slice none 0 0)]), 3, 40) := by kernel_rfl
def FKeep (S : Nat → Prop) (w w' : World) : Prop := w.heap.size ≤ w'.heap.size ∧ ∀ (k : Nat) (o : Obj), w.heap[k]? = some o → ¬ Two 42 60 o → ¬ S k → w'.heap[k]? = some o
abbrev VKeep (w w' : World) : Prop := TKeep 42 60 w w'
def Vs (w : World) (B gb : Nat) (vis : List S60) : Prop := ∃ vs, w.heap[gb]? = some (.cells #[vs] 42 (0, 0)) ∧ k60.R 60 w B (fun _ => True) vs vis
theorem Vs.below {w w' : World} {B gb : Nat} {vis : List S60} (h : Vs w B gb vis) (hb : Below w.heap.size w w') : Vs w' B gb vis := by
 obtain ⟨vs, h1, h2⟩ := h
 exact ⟨vs, blk_below h1 hb, Kd.R_below h2 hb⟩
theorem Vs.drewN {w : World} {B gb : Nat} {vis : List S60} (h : Vs w B gb vis) (n : Nat) : Vs (w.drewN n) B gb vis := h.below (pw_below_drewN (Below.refl _ _) n)
theorem Vs.grown {W W1 : World} {B gb : Nat} {vis : List S60} {ok : Nat → Prop} {v : Value} {L : List (List Int)} (h : Vs W B gb vis) (hr : (Kd.slice 5 (Kd.int .u8)).R 27 W B ok v L) (hg : W.grownBy W1 v.ownBlock) : Vs W1 B gb vis := by
 obtain ⟨vs, h1, h2⟩ := h
 exact ⟨vs, blk_grown h1 hg (Kd.R_ne hr h1 (by decide)), Kd.R_mono (Kd.R_grown (Kd.R_apart' h2 (Kd.R_typed hr) (by decide)) hg (fun _ hk => hk.2)) (fun _ hk => hk.1)⟩
theorem Vs.set {W : World} {B gb g j : Nat} {vis : List S60} {cs : Array Value} {u : Value} (h : Vs W B gb vis) (hb : W.heap[g]? = some (.cells cs 157 (0, 0))) : Vs (W.setCell ⟨g, j, none⟩ u) B gb vis := by
 obtain ⟨vs, h1, h2⟩ := h
 exact ⟨vs, blk_far h1 (blk_ne h1 hb (by decide)) u, Kd.R_set h2 hb (by decide) j u⟩
theorem FKeep.of {S : Nat → Prop} {w wr W : World} (h : VKeep w wr) (hk : Kept wr W S) : FKeep S w W :=
 ⟨Nat.le_trans h.1 hk.1, fun k o h1 h2 h3 => (hk.2 k (blk_lt (h.2 k o h1 h2)) h3).trans (h.2 k o h1 h2)⟩
def Vst (fv : Value) (B gb : Nat) : Prop := ∃ f, fv = .func (.func f) #[] #[.pointer (some ⟨gb, 0, none⟩)] ∧ IsFc Tryd.prog fv f #[.pointer (some ⟨gb, 0, none⟩)] ∧
 ∀ (vis : List S60) (lv ix : Int) (A : Option Addr) (c : Nat) (hash : List Int) (w : World), Vs w B gb vis → B ≤ w.heap.size → (Kd.int .u8).C w A hash.length hash → hash.length ≤ c → hash.length < 140737488355328 → vis.length < 1000000000 →
  Calls Tryd.prog f #[.agg #[.int .u64 lv, .int .u64 ix], .slice A hash.length c, .pointer (some ⟨gb, 0, none⟩)] w fun e w' => e = .returned (.tuple #[]) ∧ Vs w' B gb (vis ++ [⟨⟨lv, ix⟩, hash⟩]) ∧ Below B w w' ∧ VKeep w w'
def rgMk (h x : Nat) (y : List Int) : S60 := ⟨⟨h, x⟩, y⟩
theorem rgMk_eq (h x : Nat) (y : List Int) : rgMk (h + 1) (x / 2) y = ⟨⟨(h : Int) + 1, (x : Int) / 2⟩, y⟩ := by
 unfold rgMk
 congr 2
def rgH (k : Nat) (a0 a1 a2 a3 a4 a5 : Int) (l r : List Int) : Option (List Int) := (impl_toy_HashChildren.f k a0 a1 a2 a3 a4 a5 l r).bind fun y => if y.length < 140737488355328 then some y else none
def rgApp (k : Nat) (a0 a1 a2 a3 a4 a5 : Int) (b m e : Int) (L : List (List Int)) (seed : List Int) (ys : List (List Int)) (vis : List S60) : Option (List (List Int) × List S60) :=
 (compact_getMergePath.f b m e).bind fun p =>
  if 0 ≤ m ∧ m < 18446744073709551616 ∧ 0 ≤ p.1 ∧ p.1 ≤ 64 ∧ 0 ≤ p.2 ∧ p.2 < 64 ∧ L.length < 1000000 ∧ ys.length < 1000000 ∧ vis.length < 1000000
    ∧ Lib.onesCount (m.toNat / 2 ^ p.1.toNat % 2 ^ (p.2.toNat - p.1.toNat)) ≤ L.length ∧ p.2.toNat - p.1.toNat ≤ ys.length + Lib.onesCount (m.toNat / 2 ^ p.1.toNat % 2 ^ (p.2.toNat - p.1.toNat)) then
   Mrg.mgF rgMk (rgH k a0 a1 a2 a3 a4 a5) (p.2.toNat - p.1.toNat) p.1.toNat (m.toNat / 2 ^ p.1.toNat) L ys seed vis
  else none
theorem and_one1 (a : Nat) (h : a < 18446744073709551616) : Go.bits .and .u64 (a : Int) 1 = ((a % 2 : Nat) : Int) := by
 rw [show (1 : Int) = ((1 : Nat) : Int) from rfl, bits_and_u64_nat a 1 h (by omega), show a &&& 1 = a % 2 from Nat.and_two_pow_sub_one_eq_mod a 1]
theorem row_drop {α : Type} {R : α → List Value → Prop} {w : World} {A : Option Addr} {xs : List α} {m c : Nat} (h : ReadsRow R 1 w A xs.length xs) (hm : m ≤ xs.length) (hc : xs.length ≤ c) : ReadsRow R 1 w (if c = m then A else A.map (·.add m)) (xs.drop m).length (xs.drop m) := by
 have hl : (xs.drop m).length = xs.length - m := List.length_drop
 refine ⟨rfl, by rw [hl]; have := h.2.1; omega, fun hp => ?_⟩
 rw [hl] at hp
 obtain ⟨ad, rfl, hcell⟩ := h.2.2 (by omega)
 rw [if_neg (by omega)]
 refine ⟨ad.add m, rfl, fun j p hj => ?_⟩
 rw [List.getElem?_drop] at hj
 obtain ⟨cs, h1, h2, h3⟩ := hcell (m + j) p hj
 refine ⟨cs, h1, h2, fun i u hu => ?_⟩
 rw [add_add, show m + (j * 1 + i) = (m + j) * 1 + i by omega]
 exact h3 i u hu
theorem rgH_some {k : Nat} {a0 a1 a2 a3 a4 a5 : Int} {l r y : List Int} (h : rgH k a0 a1 a2 a3 a4 a5 l r = some y) : impl_toy_HashChildren.f k a0 a1 a2 a3 a4 a5 l r = some y ∧ y.length < 140737488355328 := by
 unfold rgH at h
 obtain ⟨z, hz, h⟩ := Option.bind_eq_some_iff.mp h
 by_cases c : z.length < 140737488355328
 ·rw [if_pos c] at h
  obtain rfl := Option.some.inj h
  exact ⟨hz, c⟩
 ·rw [if_neg c] at h
  exact absurd h (by simp)
theorem getLast_take {L : List (List Int)} {i : Nat} {l : List Int} (hi : i ≤ L.length) (h : (L.take i).getLast? = some l) : 0 < i ∧ L.getD (i - 1) [] = l ∧ (L.take i).dropLast = L.take (i - 1) := by
 have hn : L.take i ≠ [] := fun e => by rw [e] at h; simp at h
 have h0 : 0 < i := by
  rcases Nat.eq_zero_or_pos i with h0 | h0
  ·subst h0; simp at hn
  ·exact h0
 refine ⟨h0, ?_, ?_⟩
 ·rw [List.getLast?_eq_getElem?, List.length_take, Nat.min_eq_left hi, List.getElem?_take, if_pos (by omega)] at h
  rw [List.getD_eq_getElem?_getD, h]
  rfl
 ·rw [List.dropLast_eq_take, List.length_take, Nat.min_eq_left hi, List.take_take, Nat.min_eq_left (by omega)]
theorem fact_fn (fn : Fn) (fi ca : Array Value) (w : World) : (binOp .neq 158 (.func fn fi ca) .nilFunc).run Tryd.prog w = .ok (.bool true) w := by
 have h : ∀ d : Nat, (Op.equalIn (d + 1) 158 (.func fn fi ca) .nilFunc).run Tryd.prog w = .ok false w := fun d => by
  simp [Op.equalIn, run_underlying Tryd.underlying158]
 simp only [binOp]
 simp [Op.equal, Op.maxDepth, h 9999]
theorem rg_rel {h_ dd lo d i1 i2 a b xx v1 vl : Nat} {Q : Prop} (h : h_ + (dd + 1) = lo + d ∧ i1 ≤ a ∧ i2 ≤ b ∧ xx < 18446744073709551616 ∧ v1 + (dd + 1) = vl + d ∧ Q) {i1' i2' : Nat} (h1 : i1' ≤ i1) (h2 : i2' ≤ b) :
  h_ + 1 + dd = lo + d ∧ i1' ≤ a ∧ i2' ≤ b ∧ xx / 2 < 18446744073709551616 ∧ v1 + 1 + dd = vl + d :=
 ⟨by omega, by omega, h2, by omega, by omega⟩
theorem div_pow (m lo : Nat) : (m : Int) / 2 ^ lo = ((m / 2 ^ lo : Nat) : Int) := by norm_cast
theorem and_low (x d : Nat) (hx : x < 18446744073709551616) (hd : d < 64) : Go.bits .and .u64 (x : Int) (IntKind.u64.wrap (IntKind.u64.wrap (2 ^ d) - 1)) = ((x % 2 ^ d : Nat) : Int) := by
 have hp := Nat.two_pow_pos d
 have hlt : 2 ^ d ≤ 2 ^ 63 := Nat.pow_le_pow_right (by decide) (by omega)
 have e : ((2 : Int) ^ d) = ((2 ^ d : Nat) : Int) := by simp
 have e2 : IntKind.u64.wrap ((2 ^ d : Nat) : Int) = ((2 ^ d : Nat) : Int) := IntWalk.u64_in _ ⟨by omega, by omega⟩
 have e3 : IntKind.u64.wrap ((2 ^ d - 1 : Nat) : Int) = ((2 ^ d - 1 : Nat) : Int) := IntWalk.u64_in _ ⟨by omega, by omega⟩
 rw [e, e2, show (((2 ^ d : Nat) : Int) - 1) = ((2 ^ d - 1 : Nat) : Int) by omega, e3, bits_and_u64_nat _ _ hx (by omega), Nat.and_two_pow_sub_one_eq_mod]
set_option maxHeartbeats 16000000 in
set_option maxRecDepth 100000 in
theorem compact_Range_appendImpl.calls (k : Nat) (a0 a1 a2 a3 a4 a5 : Int) (B g gf gb : Nat) (fh fv : Value) (b : Int) (m : Nat) (e : Int) (v : Value) (L : List (List Int)) (As : Option Addr) (cs_ : Nat) (seed : List Int) (Ah : Option Addr) (ch : Nat) (ys : List (List Int)) (vO : Value) (yO : List (List Int)) (vis : List S60) (r : List (List Int) × List S60) (w : World)
  (hT : TabOK w) (hG : w.heap[g]? = some (.cells #[.pointer (some ⟨gf, 0, none⟩), .int .u64 b, .int .u64 (m : Int), v] 157 (0, 0))) (hg : B ≤ g) (hF : w.heap[gf]? = some (.cells #[fh] 101 (0, 0)))
  (hfh : IsFn Tryd.prog fh 52 (.agg #[.int .i64 a0, .int .i64 a1, .int .i64 a2, .int .u64 a3, .int .u64 a4, .int .u64 a5])) (hfv : Vst fv B gb) (hV : Vs w B gb vis) (hB : B ≤ w.heap.size)
  (hR : (Kd.slice 5 (Kd.int .u8)).R 27 w B (fun _ => True) v L) (hS : (Kd.int .u8).R 5 w B (fun _ => True) (.slice As seed.length cs_) seed)
  (hO : (Kd.slice 5 (Kd.int .u8)).R 27 w B (fun k_ => some k_ ≠ v.ownBlock) vO yO) (hsrc : ∀ (W : World) (ok : Nat → Prop), (Kd.slice 5 (Kd.int .u8)).R 27 W B ok vO yO → ReadsRow (fun x c => (Kd.slice 5 (Kd.int .u8)).M W B ok x c) 1 W Ah ys.length ys) (hch : ys.length ≤ ch)
  (h : rgApp k a0 a1 a2 a3 a4 a5 b m e L seed ys vis = some r) :
  Calls Tryd.prog 93 #[.pointer (some ⟨g, 0, none⟩), .int .u64 e, .slice As seed.length cs_, .slice Ah ys.length ch, fv] w fun e' w' => e' = .returned .nilIface ∧
   ∃ v', w'.heap[g]? = some (.cells #[.pointer (some ⟨gf, 0, none⟩), .int .u64 b, .int .u64 e, v'] 157 (0, 0)) ∧ (Kd.slice 5 (Kd.int .u8)).R 27 w' B (fun _ => True) v' r.1 ∧ Vs w' B gb r.2 ∧ Below B w w' ∧ FKeep (fun k_ => k_ = g ∨ some k_ = v.ownBlock) w w' ∧ (v'.ownBlock = v.ownBlock ∨ ∃ b_, v'.ownBlock = some b_ ∧ w.heap.size ≤ b_) := by
 obtain ⟨A, c, rfl⟩ := Kd.R_slice hR
 obtain ⟨f, hfe, hf, hcl⟩ := hfv
 subst hfe
 unfold rgApp at h
 obtain ⟨p, hp, h⟩ := Option.bind_eq_some_iff.mp h
 obtain ⟨lo', hi'⟩ := p
 dsimp only at h
 by_cases hc : 0 ≤ (m : Int) ∧ (m : Int) < 18446744073709551616 ∧ 0 ≤ lo' ∧ lo' ≤ 64 ∧ 0 ≤ hi' ∧ hi' < 64 ∧ L.length < 1000000 ∧ ys.length < 1000000 ∧ vis.length < 1000000 ∧ Lib.onesCount ((m : Int).toNat / 2 ^ lo'.toNat % 2 ^ (hi'.toNat - lo'.toNat)) ≤ L.length ∧ hi'.toNat - lo'.toNat ≤ ys.length + Lib.onesCount ((m : Int).toNat / 2 ^ lo'.toNat % 2 ^ (hi'.toNat - lo'.toNat))
 case neg => rw [if_neg hc] at h; exact absurd h (by simp)
 rw [if_pos hc] at h
 rw [Int.toNat_natCast] at hc h
 obtain ⟨lo, rfl⟩ := Int.eq_ofNat_of_zero_le hc.2.2.1
 obtain ⟨hi, rfl⟩ := Int.eq_ofNat_of_zero_le hc.2.2.2.2.1
 simp only [Int.toNat_natCast] at hc h
 obtain ⟨_, hm, _, hlo, _, hhi, hL, hY, hVl, h1, h2⟩ := hc
 obtain ⟨d, hd'⟩ : ∃ d, d = hi - lo := ⟨_, rfl⟩
 rw [← hd'] at h h1 h2
 have hd : d < 64 := by omega
 have hmN : m < 18446744073709551616 := by omega
 have hx : (m : Int) / 2 ^ lo = ((m / 2 ^ lo : Nat) : Int) := div_pow m lo
 have hxl : m / 2 ^ lo < 18446744073709551616 := Nat.lt_of_le_of_lt (Nat.div_le_self _ _) hmN
 obtain ⟨x, hxe⟩ : ∃ x, x = m / 2 ^ lo := ⟨_, rfl⟩
 rw [← hxe] at h h1 h2 hx hxl
 have hlo64 : lo + d ≤ 64 := by omega
 have hsub : IntKind.u64.wrap (((lo + d : Nat) : Int) - (lo : Int)) = (d : Int) := by rw [show ((lo + d : Nat) : Int) - (lo : Int) = (d : Int) by omega]; exact IntWalk.u64_in _ ⟨by omega, by omega⟩
 have hand := and_low x d hxl hd
 obtain ⟨y, hye⟩ : ∃ y, y = x % 2 ^ d := ⟨_, rfl⟩
 rw [← hye] at h1 h2 hand
 have hyl : y < 18446744073709551616 := by rw [hye]; exact Nat.lt_of_le_of_lt (Nat.mod_le _ _) hxl
 have hoc : bits_OnesCount64.f (y : Int) = some (Lib.onesCount y : Int) := by unfold bits_OnesCount64.f; rw [if_pos ⟨by omega, by omega⟩, Int.toNat_natCast]
 generalize Lib.onesCount y = o at h1 h2 hoc
 have hn1 : ¬ ((L.length : Int) < (o : Int)) := by omega
 have hcv : IntKind.i64.wrap (d : Int) = (d : Int) := by rw [i64_w]; unfold wrap64; omega
 have hsb : IntKind.i64.wrap ((d : Int) - (o : Int)) = (d : Int) - (o : Int) := by rw [i64_w]; unfold wrap64; omega
 have hn2 : ¬ ((ys.length : Int) < (d : Int) - (o : Int)) := by omega
 have HOC := zM hoc
 clear hoc hye hyl
 have HXE := zM hxe
 have HDE := zM hd'
 have HP := zM hp
 have H' := zM h
 clear hxe hd'
 have HT := zM hT
 clear hp h hT
 have q0 : w.cell? ⟨g, 0, none⟩ = some (.pointer (some ⟨gf, 0, none⟩)) := (blk_cell hG 0).trans rfl
 have q1 : w.cell? ⟨g, 1, none⟩ = some (.int .u64 b) := (blk_cell hG 1).trans rfl
 have q2 : w.cell? ⟨g, 2, none⟩ = some (.int .u64 (m : Int)) := (blk_cell hG 2).trans rfl
 have q3 : w.cell? ⟨g, 3, none⟩ = some (.slice A L.length c) := (blk_cell hG 3).trans rfl
 have HH1 := zM h1
 have HH2 := zM h2
 clear h1 h2
 have HG := zM hG
 have HF := zM hF
 have HFH := zM hfh
 have HF_ := zM hf
 have HCL := zM hcl
 have HV := zM hV
 have HR := zM hR
 have HS := zM hS
 have HO := zM hO
 have HSRC := zM hsrc
 clear hG hF hfh hf hcl hV hR hS hO hsrc
 go_enter Tryd.func93, Tryd.ntmps93
 go_wp2
 go_quiet ((go_at_call 113; refine (compact_getMergePath.calls b (m : Int) e lo hi _ ?side1 HP.out).mono ?_; (case side1 => exact TabOK.below HT.out (pw_below_drewN (Below.refl _ _) _)); rintro e w'' ⟨he, ⟨n_, hm_⟩⟩; exact ⟨he, _, by rw [hm_, World.drewN_drewN]⟩))
 have HH := zM h
 clear h
 have w2e : ∃ w2, w2 = w.drewN nq := ⟨_, rfl⟩
 obtain ⟨w2, hw2⟩ := w2e
 have hb2 : Below w.heap.size w w2 := by rw [hw2]; exact pw_below_drewN (Below.refl _ _) _
 have hsz : w2.heap.size = w.heap.size := by rw [hw2]; rfl
 have HB2 := zM (hb2.mono hB)
 have HW2 := zM (show VKeep w w2 from TKeep.of_below hb2)
 have HT2 := zM (TabOK.below HT.out hb2)
 have HG2 := zM (blk_below HG.out hb2)
 have HF2 := zM (blk_below HF.out hb2)
 have HV2 := zM (HV.out.below hb2)
 have HR2 := zM (Kd.R_below HR.out hb2)
 have HS2 := zM (Kd.R_below HS.out hb2)
 have HO2 := zM (Kd.R_below HO.out hb2)
 have HSZ := zM hsz
 have HBB := zM hB
 rw [← hw2]
 replace q0 : w2.cell? ⟨g, 0, none⟩ = some (.pointer (some ⟨gf, 0, none⟩)) := (blk_cell HG2.out 0).trans rfl
 replace q1 : w2.cell? ⟨g, 1, none⟩ = some (.int .u64 b) := (blk_cell HG2.out 1).trans rfl
 replace q2 : w2.cell? ⟨g, 2, none⟩ = some (.int .u64 (m : Int)) := (blk_cell HG2.out 2).trans rfl
 replace q3 : w2.cell? ⟨g, 3, none⟩ = some (.slice A L.length c) := (blk_cell HG2.out 3).trans rfl
 clear hw2 hb2 hsz hB
 go_upto_if 36 with (fail)
 go_cut [12] from 37 to 37 (fun v12 wc => v12 = .int .u64 ((lo + d : Nat) : Int) ∧ wc = w2)
 case first =>
  clear hsub hand hx q0 q1 q2 q3 hlo64 hxl hmN hd hL hY hVl hm hlo hhi
  by_cases hlt : hi < lo
  ·go_wp2
   go_meet
   case rel => exact ⟨by rw [HDE.out, Nat.sub_eq_zero_of_le (Nat.le_of_lt hlt), Nat.add_zero], rfl⟩
  ·go_wp2
   go_meet
   case rel => exact ⟨by rw [HDE.out, Nat.add_sub_cancel' (Nat.le_of_not_lt hlt)], rfl⟩
 case rest =>
  obtain ⟨rfl, rfl⟩ := hcut
  go_upto_region 5 with (fail)
  go_upto_region 6 with (go_at_call 112; (with_reducible refine (bits_OnesCount64.calls _ _ _ HOC.out).mono ?_); rintro e' w' ⟨rfl, ⟨n5, rfl⟩⟩)
  go_outline
  have hn1' : ¬ L.length < o := by omega
  have hn2' : ¬ ((ys.length : Int) < (lo : Int) + (d : Int) - (lo : Int) - (o : Int)) := by omega
  clear hn1 hn2 hcv hsb hx hand hsub
  go_wp2
  clear hn1' hn2' q0 q1 q2 q3
  obtain ⟨w5, hw5⟩ : ∃ w5, w5 = wc.drewN n5 := ⟨_, rfl⟩
  have hb5 : Below wc.heap.size wc w5 := by rw [hw5]; exact pw_below_drewN (Below.refl _ _) _
  have hsz5 : w5.heap.size = wc.heap.size := by rw [hw5]; rfl
  have HB5 := zM (HB2.out.trans (hb5.mono (by rw [HSZ.out]; exact HBB.out)))
  have HW5 := zM (show VKeep w w5 from HW2.out.below hb5)
  have HG5 := zM (blk_below HG2.out hb5)
  have HF5 := zM (blk_below HF2.out hb5)
  have HV5 := zM (HV2.out.below hb5)
  have HR5 := zM (Kd.R_below HR2.out hb5)
  have HS5 := zM (Kd.R_below HS2.out hb5)
  have HO5 := zM (Kd.R_below HO2.out hb5)
  have HSZ5 := zM (hsz5.trans HSZ.out)
  rw [← hw5]
  clear hw5 hb5 hsz5 HB2 HG2 HF2 HV2 HR2 HS2 HO2 HSZ HT2
  have HL := zM hL
  have HYL := zM hY
  have HVL := zM hVl
  have HLO := zM hlo64
  have HXL := zM hxl
  have HD := zM hd
  clear hL hY hVl hlo64 hxl hmN hd hm hlo hhi
  go_loopg [2, 13, 18, 19, 20] (d + 1) (fun kq v2 v13 v18 v19 v20 w' => ∃ (h_ dd xx i1 i2 : Nat) (s : List Int) (A2 : Option Addr) (c2 : Nat) (vis1 : List S60), v2 = .slice A2 s.length c2 ∧ v13 = .int .u64 (xx : Int) ∧ v18 = .int .i64 (i1 : Int) ∧ v19 = .int .i64 (i2 : Int) ∧ v20 = .int .u64 (h_ : Int) ∧ Aside0 (kq = dd + 1) ∧ Aside0 (h_ + dd = lo + d ∧ i1 ≤ L.length ∧ i2 ≤ ys.length ∧ xx < 18446744073709551616 ∧ vis1.length + dd = vis.length + d ∧ (dd = d ∨ s.length < 140737488355328)) ∧ Aside0 (Mrg.mgF rgMk (rgH k a0 a1 a2 a3 a4 a5) dd h_ xx (L.take i1) (ys.drop i2) s vis1 = some r) ∧ Aside0 ((Kd.int .u8).R 5 w' B (fun _ => True) v2 s) ∧ Aside0 (Vs w' B gb vis1) ∧ Aside0 (Below B w w') ∧ Aside0 (VKeep w5 w'))
  case atStart =>
   exact ⟨lo, d, x, L.length, 0, seed, As, cs_, vis, rfl, rfl, rfl, rfl, rfl, ⟨rfl⟩, ⟨rfl, Nat.le_refl _, Nat.zero_le _, HXL.out, rfl, .inl rfl⟩, ⟨by rw [List.take_length, List.drop_zero]; exact H'.out⟩, HS5, HV5, HB5, ⟨TKeep.refl _⟩⟩
  case round =>
   clear H' HS5 HV5 HB5
   obtain ⟨h_, dd, xx, i1, i2, s, A2, c2, vis1, rfl, rfl, rfl, rfl, rfl, HQ, HN, HM, HS, HV, HB, HK⟩ := hrel
   have hGr := HK.out.blk HG5.out (by decide) (by decide)
   have hFr := HK.out.blk HF5.out (by decide) (by decide)
   have HRr := zM (HK.out.R HR5.out (by decide))
   have HOr := zM (HK.out.R HO5.out (by decide))
   have HGr := zM hGr
   have q0 : wr.cell? ⟨g, 0, none⟩ = some (.pointer (some ⟨gf, 0, none⟩)) := (blk_cell hGr 0).trans rfl
   have q3 : wr.cell? ⟨g, 3, none⟩ = some (.slice A L.length c) := (blk_cell hGr 3).trans rfl
   have qf : wr.cell? ⟨gf, 0, none⟩ = some fh := (blk_cell hFr 0).trans rfl
   clear hGr hFr
   cases dd with
   | zero =>
    have hM := HM.out
    rw [Mrg.mgF] at hM
    have hr := (Option.some.inj hM).symm
    subst hr
    have hlt1 : ¬ ((h_ : Int) < (lo : Int) + (d : Int)) := by have := HN.out.1; omega
    have ng : g < wr.heap.size := blk_lt HGr.out
    have hi1 := HN.out.2.1
    have hi2 := HN.out.2.2.1
    have HI1 := zM hi1
    have HI2 := zM hi2
    obtain ⟨i0, hi0, hz0⟩ := Option.map_eq_some_iff.1 info27
    simp only [Prod.mk.injEq] at hz0
    have hcut1 := cut_to 25 27 .i64 Tryd.underlying25 hi0 A L.length c (i1 : Int) (by omega) (by omega) (Kd.R_reads' HRr.out).2.1
    have hcut2 := cut_from 25 27 .i64 Tryd.underlying25 hi0 1 hz0.2.1 Ah ys.length ch (i2 : Int) (by omega) (by omega)
    rw [Int.toNat_natCast] at hcut1 hcut2
    simp only [Nat.mul_one] at hcut2
    generalize hA3 : (if ch = i2 then Ah else Ah.map (·.add i2)) = A3 at hcut2
    have HA3 := zM hA3
    have HRt := zM (by have := Kd.R_take HRr.out hi1; exact this : (Kd.slice 5 (Kd.int .u8)).R 27 wr B (fun _ => True) (.slice A i1 c) (L.take i1))
    have HLT := zM (show (L.take i1).length = i1 by rw [List.length_take]; omega)
    have hown : (Value.slice A i1 c).ownBlock = (Value.slice A L.length c).ownBlock := by cases A <;> rfl
    have HOW := zM hown
    have HOt := zM (Kd.R_mono (ok' := fun k_ => True ∧ some k_ ≠ (Value.slice A i1 c).ownBlock) HOr.out (fun k_ hk_ => ⟨trivial, by rw [hown]; exact hk_⟩))
    have HCH := zM hch
    clear hM hi1 hi2 hi0 hz0 hA3 hown hch
    have HLE := zM (Nat.le_trans HBB.out HB.out.size)
    have HGE := zM hg
    clear hg
    go_wp2
    go_region_law
     (first
      | (refine Kd.R_append_step (Kd.slice 5 (Kd.int .u8)) (w0 := w) (W := wr.drew) B ?hw (.tmp 137) (.tmp 139) 25 27 (.slice none 0 0) 24 ?ho Tryd.underlying25 info27 (by rfl) (by decide) (by omega) (.slice A i1 c) (L.take i1) s [.slice A2 s.length c2] (fun _ => True) (fun k_ => some k_ ≠ (Value.slice A i1 c).ownBlock) ?hs ?hx ?bM (fun _ h_ => ⟨trivial, h_⟩) (fun _ _ => trivial) ?bO ?bB ?bS ?bL ?_; (case ho => rfl); (case hw => rfl); (case hs => rfl); (case hx => rfl); (case bM => exact ⟨_, rfl, Kd.R_mono (Kd.R_apart' (Kd.R_drew HS.out) (Kd.R_typed (Kd.R_drew HRt.out)) (by decide)) (fun _ h_ => h_.2)⟩); (case bO => exact Kd.R_drew HRt.out); (case bB => exact below_drew HB.out); (case bS => exact HLE.out); (case bL => rw [HLT.out]; have := HL.out; have := HI1.out; omega); intro v14 w14 hr14 hb14 hg14 hat14; have HR14 := zM hr14; have HB14 := zM hb14; have HK14 := zM (blk_grown (show wr.drew.heap[g]? = _ from HGr.out) hg14 (Kd.R_ne HRt.out HGr.out (by decide))); have HV14 := zM (Vs.grown (HV.out.below (below_drew (Below.refl _ _))) (Kd.R_drew HRt.out) hg14); have HO14 := zM (Kd.R_after (Kd.R_drew HOt.out) hg14 hat14); have HP14 := zM (Kept.of_grown (S := fun k_ => k_ = g ∨ some k_ = (Value.slice A L.length c).ownBlock) hg14 (Kept.refl wr _).drew (fun k_ hk_ => .inl (.inr (hk_.symm.trans HOW.out)))); have HA14 := zM hat14; clear hr14 hb14 hg14 hat14)
      | (refine Kd.R_append_rows_step (Kd.slice 5 (Kd.int .u8)) (w0 := w) B ?hw (.tmp 140) (.tmp 143) 25 27 (.slice none 0 0) 24 rfl Tryd.underlying25 info27 (by rfl) (by decide) (by omega) v14 (L.take i1 ++ [s]) (ys.drop i2) A3 (ys.length - i2) (ch - i2) (fun _ => True) (fun k_ => True ∧ some k_ ≠ v14.ownBlock) rfl rfl ?aO ?aR (fun _ _ h => h) (fun _ h => h) (fun _ _ => trivial) ?aB ?aS ?aL ?_; (case hw => rfl); (case aO => exact HR14.out); (case aR => have hrr := row_drop (c := ch) (HSRC.out _ _ HO14.out) HI2.out HCH.out; rw [HA3.out, List.length_drop] at hrr; exact hrr); (case aB => exact HB14.out); (case aS => exact Nat.le_trans HBB.out HB14.out.size); (case aL => rw [List.length_append, HLT.out, List.length_singleton]; have := HL.out; have := HI1.out; have := HYL.out; omega); intro v15 w15 hr15 hb15 hg15 hat15; obtain ⟨A15, c15, e15⟩ := Kd.R_slice hr15; generalize hn15 : (L.take i1 ++ [s] ++ ys.drop i2).length = n15 at e15; subst e15; have hk15 := blk_grown HK14.out hg15 (Kd.R_ne HR14.out HK14.out (by decide)); have HK15 := zM hk15; have c15_ : w15.cell? ⟨g, 3, none⟩ = some (.slice A L.length c) := (blk_cell hk15 3).trans rfl; have f15_ := blk_frozen hk15 3; have HR15 := zM hr15; have HB15 := zM hb15; have HV15 := zM (Vs.grown HV14.out HR14.out hg15); have HP15 := zM (Kept.of_grown hg15 HP14.out (fun k_ hk_ => HA14.out.elim (fun e_ => .inl (.inr (hk_.symm.trans (e_.trans HOW.out)))) (fun he_ => he_.elim fun b_ hb_ => .inr (by have hx_ := hk_.symm.trans hb_.1; injection hx_ with hx_; subst hx_; exact hb_.2)))); have HA15 := zM hat15; clear hr15 hb15 hg15 hat15 hk15 hn15))
    all_goals
     have hk16 := blk_put HK15.out 3 (.slice A15 n15 c15) rfl
     have HK16 := zM hk16
     have HR16 := zM (Kd.R_set HR15.out HK15.out (by decide) 3 (.slice A15 n15 c15))
     have HV16 := zM (HV15.out.set (j := 3) (u := .slice A15 n15 c15) HK15.out)
     have HB16 := zM (HB15.out.setCell (p := ⟨g, 3, none⟩) HGE.out (.slice A15 n15 c15))
     have HP16 := zM (HP15.out.setCell (p := ⟨g, 3, none⟩) (.inl (.inl rfl)) (.slice A15 n15 c15))
     have q2 : (w15.setCell ⟨g, 3, none⟩ (.slice A15 n15 c15)).cell? ⟨g, 2, none⟩ = some (.int .u64 (m : Int)) := (blk_cell hk16 2).trans rfl
     have f2 := blk_frozen hk16 2
     clear hk16
     generalize w15.setCell ⟨g, 3, none⟩ (.slice A15 n15 c15) = w16 at *
     go_wp2
     go_ret
     refine ⟨rfl, .slice A15 n15 c15, blk_put HK16.out 2 _ rfl, ?_, HV16.out.set HK16.out, HB16.out.setCell HGE.out _, FKeep.of (HW5.out.trans HK.out) (HP16.out.setCell (.inl (.inl rfl)) _), ?_⟩
     ·have h_ := Kd.R_set HR16.out HK16.out (by decide) 2 (.int .u64 e)
      rw [List.append_assoc] at h_
      exact h_
     ·have hsz := Nat.le_trans HW5.out.1 HK.out.1
      rcases HA15.out with e_ | ⟨b_, e_, hb_⟩
      ·rcases HA14.out with e2_ | ⟨b_, e2_, hb_⟩
       ·exact .inl (e_.trans (e2_.trans HOW.out))
       ·exact .inr ⟨b_, e_.trans e2_, Nat.le_trans hsz hb_⟩
      ·exact .inr ⟨b_, e_, Nat.le_trans hsz (Nat.le_trans HP14.out.1 hb_)⟩
   | succ dd =>
    have hlt1 : (h_ : Int) < (lo : Int) + (d : Int) := by have := HN.out.1; omega
    have hbit := and_one1 xx HN.out.2.2.2.1
    have hM := HM.out
    clear HM
    rw [Mrg.mgF] at hM
    by_cases c0 : xx % 2 = 0
    ·rw [if_pos c0] at hM
     rw [c0] at hbit
     cases hdr : ys.drop i2 with
     | nil => rw [hdr] at hM; exact absurd hM (by simp)
     | cons y0 R' =>
      rw [hdr, List.head?_cons, Option.bind_some, List.tail_cons] at hM
      obtain ⟨z, hz, hM⟩ := Option.bind_eq_some_iff.mp hM
      obtain ⟨hz, hzl⟩ := rgH_some hz
      have hi2 : i2 < ys.length := by
       apply Nat.lt_of_not_le
       intro hle
       rw [List.drop_eq_nil_of_le hle] at hdr
       cases hdr
      have hR' : ys.drop (i2 + 1) = R' := by rw [← List.drop_drop, hdr]; rfl
      have hy0 : ys.getD i2 [] = y0 := by
       have h1 : (ys.drop i2)[0]? = some y0 := by rw [hdr]; rfl
       rw [List.getElem?_drop, Nat.add_zero] at h1
       rw [List.getD_eq_getElem?_getD, h1]
       rfl
      obtain ⟨ad, cc, eA, _, hK_, hcell⟩ := (HSRC.out wr _ HOr.out).get_ ([] : List Int) (i2 : Int) (by omega) (by omega)
      rw [Int.toNat_natCast] at hK_ hcell
      rw [hy0] at hK_
      obtain ⟨ve, rfl, hE⟩ := hK_
      have hce := hcell 0 _ rfl
      rw [Nat.mul_one, Nat.add_zero] at hce
      obtain ⟨Ae, de, rfl⟩ := Kd.R_slice hE
      have HE := zM hE
      have HZ := zM hz
      have HZL := zM hzl
      rw [← hR'] at hM
      have HM := zM hM
      have j0 : (0 : Int) ≤ (i2 : Int) := by omega
      have j1 : (i2 : Int) < (ys.length : Int) := by omega
      have hwi : wrap64 ((i2 : Int) + 1) = (i2 : Int) + 1 := by unfold wrap64; have := HYL.out; omega
      have HI2 := zM hi2
      clear hz hM hE hcell hdr hy0 hR' hi2
      subst eA
      go_upto_region 17 with (fail)
      go_still_tail 12, (by kernel_rfl)
      go_upto_region 22 with ((with_reducible refine gate_value (x := .tmp 93) rfl ?_); refine callsFv_ (some 99) rfl rfl fh _ HFH.out #[.slice A2 s.length c2, .slice Ae y0.length de] #[.agg #[.int .i64 a0, .int .i64 a1, .int .i64 a2, .int .u64 a3, .int .u64 a4, .int .u64 a5], .slice A2 s.length c2, .slice Ae y0.length de] rfl rfl (by first | rfl | (simp only [Act.eval]; rfl)) (by (try simp only [List.map_toArray, List.map_cons, List.map_nil]); first | done | rfl) ?_; (with_reducible refine (impl_toy_HashChildren.calls k a0 a1 a2 a3 a4 a5 _ _ s _ _ y0 z _ ?side1 ?side2 ?side3 ?side4 HZ.out).mono ?_); (case side1 => exact Kd.C_drew (Kd.R_reads' HS.out).2.2); (case side2 => exact (Kd.R_reads' HS.out).2.1); (case side3 => exact Kd.C_drew (Kd.R_reads' HE.out).2.2); (case side4 => exact (Kd.R_reads' HE.out).2.1); rintro e' w7 ⟨v7, rfl, ho7, hb7⟩; refine ⟨_, rfl, ?_⟩; have HO7 := zM ho7; have HB7 := zM (below_step (below_drew (Below.refl wr.heap.size wr)) hb7); clear ho7 hb7)
      obtain ⟨A7, c7, rfl⟩ := Kd.R_slice HO7.out
      have hwh : IntKind.u64.wrap ((h_ : Int) + 1) = (h_ : Int) + 1 := IntWalk.u64_in _ ⟨by omega, by have := HLO.out; have := HN.out.1; omega⟩
      have hnn := fact_fn
      have hle := Nat.le_trans HBB.out HB.out.size
      have HLE := zM hle
      clear hle
      go_wp2_with (first | (go_at_call 92; (with_reducible refine (compact_NewNodeID.calls _ _ _ _ _ rfl).mono ?_); rintro e' w8 ⟨rfl, hb8⟩; have HB8 := zM hb8; clear hb8) | ((with_reducible refine gate_value (x := .tmp 124) rfl ?_); refine callsFc_ (some 130) rfl rfl _ _ HF_.out #[.agg #[.int .u64 ((h_ : Int) + 1), .int .u64 ((xx : Int) / 2)], .slice A7 z.length c7] #[.agg #[.int .u64 ((h_ : Int) + 1), .int .u64 ((xx : Int) / 2)], .slice A7 z.length c7, .pointer (some ⟨gb, 0, none⟩)] rfl rfl (by first | rfl | (simp only [Act.eval]; rfl)) (by (try simp only [List.map_toArray, List.map_cons, List.map_nil]); first | done | rfl) ?_; (with_reducible refine (HCL.out vis1 ((h_ : Int) + 1) ((xx : Int) / 2) A7 c7 z _ ?side1 ?side2 ?side3 ?side4 HZL.out ?side5).mono ?_); (case side1 => exact (HV.out.below HB7.out).below HB8.out); (case side2 => exact Nat.le_trans HLE.out (Nat.le_trans HB7.out.size HB8.out.size)); (case side3 => exact Kd.C_below (Kd.R_reads' HO7.out).2.2 HB8.out); (case side4 => exact (Kd.R_reads' HO7.out).2.1); (case side5 => have := HN.out.2.2.2.2.1; have := HVL.out; have := HD.out; omega); rintro e' w9 ⟨rfl, hv9, hb9, hk9⟩; refine ⟨_, rfl, ?_⟩; have HV9 := zM hv9; have HB9 := zM hb9; have HK9 := zM hk9; clear hv9 hb9 hk9))
      go_roundg (dd + 1)
      case measure => have := HQ.out; omega
      case rel =>
       refine ⟨h_ + 1, dd, xx / 2, i1, i2 + 1, z, A7, c7, vis1 ++ [rgMk (h_ + 1) (xx / 2) z], rfl, by simp, rfl, by simp, by simp, ⟨rfl⟩, ⟨?_⟩, HM, ⟨?_⟩, ⟨?_⟩, ⟨?_⟩, ⟨?_⟩⟩
       ·obtain ⟨g1, g2, g3, g4, g5⟩ := rg_rel HN.out (i1' := i1) (i2' := i2 + 1) (Nat.le_refl _) HI2.out
        exact ⟨g1, g2, g3, g4, by rw [List.length_append, List.length_singleton]; exact g5, .inr HZL.out⟩
       ·exact HK9.out.R (Kd.R_below (Kd.R_lower HO7.out HLE.out) HB8.out) (by decide)
       ·rw [rgMk_eq]; exact HV9.out
       ·exact HB.out.trans ((HB7.out.mono HLE.out).trans ((HB8.out.mono (Nat.le_trans HLE.out HB7.out.size)).trans HB9.out))
       ·exact ((HK.out.below HB7.out).below HB8.out).trans HK9.out
    ·rw [if_neg c0] at hM
     have c1 : xx % 2 = 1 := by omega
     rw [c1] at hbit
     obtain ⟨l, hlast, hM⟩ := Option.bind_eq_some_iff.mp hM
     obtain ⟨z, hz, hM⟩ := Option.bind_eq_some_iff.mp hM
     obtain ⟨hz, hzl⟩ := rgH_some hz
     obtain ⟨hi1, hl, hdl⟩ := getLast_take HN.out.2.1 hlast
     rw [hdl] at hM
     obtain ⟨i3, rfl⟩ : ∃ i3, i1 = i3 + 1 := ⟨i1 - 1, by omega⟩
     rw [Nat.add_sub_cancel] at hl hM
     have hi3 : i3 < L.length := by have := HN.out.2.1; omega
     obtain ⟨gh, cg, eA, hBg, hgl, cells, hcl⟩ := row_form2 HRr.out (by omega)
     obtain ⟨rfl, rfl⟩ : A = some ⟨gh, 0, none⟩ ∧ c = cg := by injection eA with e1 e2 e3; exact ⟨e1, e3⟩
     obtain ⟨Ae, de, ecx, hE⟩ := row_elem2 HRr.out i3 hi3
     rw [hl] at ecx hE
     have HE := zM hE
     have HZ := zM hz
     have HZL := zM hzl
     have HM := zM hM
     have j0 : (0 : Int) ≤ (i3 : Int) := by omega
     have j1 : (i3 : Int) < (L.length : Int) := by omega
     have hwi : wrap64 (i3 : Int) = (i3 : Int) := by unfold wrap64; have := HL.out; omega
     clear hz hM hE hl hdl hlast hi1 hi3 eA hBg hgl hcl
     go_upto_region 20 with (fail)
     go_still_tail 15, (by kernel_rfl)
     go_upto_region 22 with ((with_reducible refine gate_value (x := .tmp 110) rfl ?_); refine callsFv_ (some 119) rfl rfl fh _ HFH.out #[.slice Ae l.length de, .slice A2 s.length c2] #[.agg #[.int .i64 a0, .int .i64 a1, .int .i64 a2, .int .u64 a3, .int .u64 a4, .int .u64 a5], .slice Ae l.length de, .slice A2 s.length c2] rfl rfl (by first | rfl | (simp only [Act.eval]; rfl)) (by (try simp only [List.map_toArray, List.map_cons, List.map_nil]); first | done | rfl) ?_; (with_reducible refine (impl_toy_HashChildren.calls k a0 a1 a2 a3 a4 a5 _ _ l _ _ s z _ ?side1 ?side2 ?side3 ?side4 HZ.out).mono ?_); (case side1 => exact Kd.C_drew (Kd.R_reads' HE.out).2.2); (case side2 => exact (Kd.R_reads' HE.out).2.1); (case side3 => exact Kd.C_drew (Kd.R_reads' HS.out).2.2); (case side4 => exact (Kd.R_reads' HS.out).2.1); rintro e' w7 ⟨v7, rfl, ho7, hb7⟩; refine ⟨_, rfl, ?_⟩; have HO7 := zM ho7; have HB7 := zM (below_step (below_drew (Below.refl wr.heap.size wr)) hb7); clear ho7 hb7)
     obtain ⟨A7, c7, rfl⟩ := Kd.R_slice HO7.out
     have hwh : IntKind.u64.wrap ((h_ : Int) + 1) = (h_ : Int) + 1 := IntWalk.u64_in _ ⟨by omega, by have := HLO.out; have := HN.out.1; omega⟩
     have hnn := fact_fn
     have hle := Nat.le_trans HBB.out HB.out.size
     have HLE := zM hle
     clear hle
     go_wp2_with (first | (go_at_call 92; (with_reducible refine (compact_NewNodeID.calls _ _ _ _ _ rfl).mono ?_); rintro e' w8 ⟨rfl, hb8⟩; have HB8 := zM hb8; clear hb8) | ((with_reducible refine gate_value (x := .tmp 124) rfl ?_); refine callsFc_ (some 130) rfl rfl _ _ HF_.out #[.agg #[.int .u64 ((h_ : Int) + 1), .int .u64 ((xx : Int) / 2)], .slice A7 z.length c7] #[.agg #[.int .u64 ((h_ : Int) + 1), .int .u64 ((xx : Int) / 2)], .slice A7 z.length c7, .pointer (some ⟨gb, 0, none⟩)] rfl rfl (by first | rfl | (simp only [Act.eval]; rfl)) (by (try simp only [List.map_toArray, List.map_cons, List.map_nil]); first | done | rfl) ?_; (with_reducible refine (HCL.out vis1 ((h_ : Int) + 1) ((xx : Int) / 2) A7 c7 z _ ?side1 ?side2 ?side3 ?side4 HZL.out ?side5).mono ?_); (case side1 => exact (HV.out.below HB7.out).below HB8.out); (case side2 => exact Nat.le_trans HLE.out (Nat.le_trans HB7.out.size HB8.out.size)); (case side3 => exact Kd.C_below (Kd.R_reads' HO7.out).2.2 HB8.out); (case side4 => exact (Kd.R_reads' HO7.out).2.1); (case side5 => have := HN.out.2.2.2.2.1; have := HVL.out; have := HD.out; omega); rintro e' w9 ⟨rfl, hv9, hb9, hk9⟩; refine ⟨_, rfl, ?_⟩; have HV9 := zM hv9; have HB9 := zM hb9; have HK9 := zM hk9; clear hv9 hb9 hk9))
     go_roundg (dd + 1)
     case measure => have := HQ.out; omega
     case rel =>
      refine ⟨h_ + 1, dd, xx / 2, i3, i2, z, A7, c7, vis1 ++ [rgMk (h_ + 1) (xx / 2) z], rfl, by simp, by simp, rfl, by simp, ⟨rfl⟩, ⟨?_⟩, HM, ⟨?_⟩, ⟨?_⟩, ⟨?_⟩, ⟨?_⟩⟩
      ·obtain ⟨g1, g2, g3, g4, g5⟩ := rg_rel HN.out (i1' := i3) (i2' := i2) (Nat.le_succ _) HN.out.2.2.1
       exact ⟨g1, g2, g3, g4, by rw [List.length_append, List.length_singleton]; exact g5, .inr HZL.out⟩
      ·exact HK9.out.R (Kd.R_below (Kd.R_lower HO7.out HLE.out) HB8.out) (by decide)
      ·rw [rgMk_eq]; exact HV9.out
      ·exact HB.out.trans ((HB7.out.mono HLE.out).trans ((HB8.out.mono (Nat.le_trans HLE.out HB7.out.size)).trans HB9.out))
      ·exact ((HK.out.below HB7.out).below HB8.out).trans HK9.out
theorem FKeep.pre {S : Nat → Prop} {w w1 w2 : World} (h : VKeep w w1) (h2 : FKeep S w1 w2) : FKeep S w w2 := ⟨Nat.le_trans h.1 h2.1, fun k o h3 h4 h5 => h2.2 k o (h.2 k o h3 h4) h4 h5⟩
theorem FKeep.R {α : Type} {d : Kd α} {S : Nat → Prop} {w w1 : World} {e base : Nat} {ok : Nat → Prop} {v : Value} {xs : List α} (h : FKeep S w w1) (hr : d.R e w base ok v xs) (hq : ∀ q, q ∈ e :: d.E → q ≠ 42 ∧ q ≠ 60) (hne : ∀ k, ok k → ¬ S k) : d.R e w1 base ok v xs := by
 refine Kd.R_mono (Kd.R_move (Kd.R_bound hr) (fun k hk => ?_)) (fun _ hk => hk.1)
 obtain ⟨ho, _, _, q, hq1, cells, hc⟩ := hk
 rw [hc]
 exact h.2 k _ hc (by rintro ⟨cs', fl', e | e⟩ <;> · injection e with _ e; first | exact (hq q hq1).1 e | exact (hq q hq1).2 e) (hne k ho)
theorem FKeep.blk {S : Nat → Prop} {w w1 : World} {g t : Nat} {cs : Array Value} (h : FKeep S w w1) (hb : w.heap[g]? = some (.cells cs t (0, 0))) (h1 : t ≠ 42) (h2 : t ≠ 60) (hn : ¬ S g) : w1.heap[g]? = some (.cells cs t (0, 0)) :=
 h.2 g _ hb (by rintro ⟨cs', fl', e | e⟩ <;> · injection e with _ e; first | exact h1 e | exact h2 e) hn
theorem Vst.ne {fv : Value} {B gb : Nat} (h : Vst fv B gb) : ∃ f, fv = .func (.func f) #[] #[.pointer (some ⟨gb, 0, none⟩)] := h.elim fun f hf => ⟨f, hf.1⟩
theorem emptyR (X : World) (B : Nat) (hB : B ≤ X.heap.size) : (Kd.int .u8).R 5 (X.alloc (.cells #[] 5)) B (fun _ => True) (.slice (some ⟨X.heap.size, 0, none⟩) 0 0) [] :=
 ⟨fun _ _ => trivial, [], World.ownsRow_lit (base := B) (e := 5) (size := 1) X #[] 0 hB (by decide) rfl, Reps.none _ _⟩
def rgNew (b e : Int) (x : List (List Int)) : Prop := b ≤ e ∧ compact_RangeSize.f b e = some (x.length : Int) ∧ 0 ≤ e ∧ e < 18446744073709551616
instance (b e : Int) (x : List (List Int)) : Decidable (rgNew b e x) := by unfold rgNew; infer_instance
theorem fact_func (fn : Fn) (first cap : Array Value) (w : World) : (Instr.makeFunc fn first cap).run Tryd.prog w = .ok (.func fn first cap) w := rfl
def HeldR (g : Nat) (b e : Int) (A : Option Addr) (n c : Nat) (w : World) : Prop := C3 w g (.int .u64 b) (.int .u64 e) (.slice A n c)
theorem HeldR.of {g : Nat} {b e : Int} {A : Option Addr} {n c : Nat} {w : World} (h : w.heap[g]? = some (.cells #[.int .u64 b, .int .u64 e, .slice A n c] 39 (0, 0))) : HeldR g b e A n c w :=
 ⟨(blk_cell h 0).trans rfl, (blk_cell h 1).trans rfl, (blk_cell h 2).trans rfl⟩
theorem HeldR.below {g B : Nat} {b e : Int} {A : Option Addr} {n c : Nat} {w w' : World} (h : HeldR g b e A n c w) (hb : Below B w w') (hg : g < B) : HeldR g b e A n c w' :=
 ⟨(hb.cell (p := ⟨g, 0, none⟩) hg).trans h.1, (hb.cell (p := ⟨g, 1, none⟩) hg).trans h.2.1, (hb.cell (p := ⟨g, 2, none⟩) hg).trans h.2.2⟩
theorem blk_kept' {w w1 : World} {B g g' t : Nat} {v : Value} {L : List (List Int)} {cs cs' : Array Value} (hK : FKeep (fun k_ => k_ = g ∨ some k_ = v.ownBlock) w w1) (hG : w.heap[g]? = some (.cells cs 157 (0, 0))) (hR : (Kd.slice 5 (Kd.int .u8)).R 27 w B (fun _ => True) v L)
  (hb : w.heap[g']? = some (.cells cs' t (0, 0))) (h1 : t ≠ 42) (h2 : t ≠ 60) (h3 : t ≠ 157) (h4 : 27 ≠ t) : w1.heap[g']? = some (.cells cs' t (0, 0)) :=
 hK.blk hb h1 h2 (fun h => h.elim (fun e => blk_ne hb hG h3 e) (fun e => Kd.R_ne hR hb h4 e))
theorem four_blocks (w : World) (o1 o2 o3 o4 : Obj) (w3 : World) (hw3 : w3 = (((w.alloc o1).alloc o2).alloc o3).alloc o4) :
  Below w.heap.size w w3 ∧ w3.heap.size = w.heap.size + 4 ∧ w3.heap[w.heap.size]? = some o1 ∧ w3.heap[w.heap.size + 1]? = some o2 ∧ w3.heap[w.heap.size + 1 + 1]? = some o3 ∧ w3.heap[w.heap.size + 1 + 1 + 1]? = some o4 := by
 have s1 : (w.alloc o1).heap.size = w.heap.size + 1 := Array.size_push _
 have s2 : ((w.alloc o1).alloc o2).heap.size = w.heap.size + 1 + 1 := (Array.size_push _).trans (by rw [s1])
 have s3 : (((w.alloc o1).alloc o2).alloc o3).heap.size = w.heap.size + 1 + 1 + 1 := (Array.size_push _).trans (by rw [s2])
 have k2 := blk_new (w.alloc o1) o2
 have k3 := blk_new ((w.alloc o1).alloc o2) o3
 have k4 := blk_new (((w.alloc o1).alloc o2).alloc o3) o4
 rw [s1] at k2
 rw [s2] at k3
 rw [s3] at k4
 subst hw3
 exact ⟨below_alloc (below_alloc (below_alloc (below_alloc (Below.refl _ _) _) _) _) _, (Array.size_push _).trans (by rw [s3]), blk_alloc (blk_alloc (blk_alloc (blk_new w _) _) _) _, blk_alloc (blk_alloc k2 _) _, blk_alloc k3 _, k4⟩
set_option maxHeartbeats 16000000 in
set_option maxRecDepth 100000 in
theorem impl_RootHash1.calls (B gb : Nat) (vs : Value) (vis : List S60) (lv ix : Int) (A : Option Addr) (c : Nat) (hash : List Int) (w : World)
  (hbx : w.heap[gb]? = some (.cells #[vs] 42 (0, 0))) (hgb : B ≤ gb) (hB : B ≤ w.heap.size) (hR : k60.R 60 w B (fun _ => True) vs vis)
  (hC : (Kd.int .u8).C w A hash.length hash) (hc : hash.length ≤ c) (hl1 : hash.length < 140737488355328) (hl2 : vis.length < 1000000000) :
  Calls Tryd.prog 119 #[.agg #[.int .u64 lv, .int .u64 ix], .slice A hash.length c, .pointer (some ⟨gb, 0, none⟩)] w fun e w' => e = .returned (.tuple #[]) ∧
   ∃ vs', w'.heap[gb]? = some (.cells #[vs'] 42 (0, 0)) ∧ k60.R 60 w' B (fun _ => True) vs' (vis ++ [⟨⟨lv, ix⟩, hash⟩]) ∧ Below B w w' ∧ TKeep 42 60 w w' := by
 obtain ⟨w1, hw1⟩ : ∃ w1, w1 = w.alloc (.cells #[.int .u64 lv, .int .u64 ix] 106) := ⟨_, rfl⟩
 have hb1 : Below w.heap.size w w1 := by rw [hw1]; exact below_alloc (Below.refl _ _) _
 have hk1 : w1.heap[w.heap.size]? = some (.cells #[.int .u64 lv, .int .u64 ix] 106 (0, 0)) := by rw [hw1]; exact blk_new w _
 have q0 : w1.cell? ⟨w.heap.size, 0, none⟩ = some (.int .u64 lv) := (blk_cell hk1 0).trans rfl
 have q1 : w1.cell? ⟨w.heap.size, 1, none⟩ = some (.int .u64 ix) := (blk_cell hk1 1).trans rfl
 have hbx1 := blk_below hbx hb1
 have q2 : w1.cell? ⟨gb, 0, none⟩ = some vs := (blk_cell hbx1 0).trans rfl
 have hgx : gb < w.heap.size := blk_lt hbx
 have ne1 : w.heap.size < w1.heap.size := blk_lt hk1
 have ne2 : gb < w1.heap.size := blk_lt hbx1
 have HR1 := zM (Kd.R_below hR hb1)
 have HC1 := zM (Kd.C_below hC hb1)
 have HBX := zM hbx1
 have HB1 := zM (hb1.mono hB)
 have HTK := zM (TKeep.of_below (t1 := 42) (t2 := 60) hb1)
 have HBW := zM (Nat.le_trans hB hb1.size)
 have HGX := zM hgx
 obtain ⟨Av, cv, rfl⟩ := Kd.R_slice hR
 have HL2 := zM hl2
 have HL1 := zM hl1
 clear hR hC hbx hbx1 hb1 hk1 hB hl1 hl2 hgx
 go_enter Tryd.func119, Tryd.ntmps119
 go_upto_region 1 with (fail)
 rw [← hw1]
 clear hw1
 generalize w.heap.size = gx at *
 go_region_law
  (first
   | (go_simp; go_at_call 56; (with_reducible refine (impl_fromNode.calls lv ix lv ix _ rfl).mono ?_); rintro e' w7 ⟨rfl, hb7⟩; have HB7 := zM (show Below w1.heap.size w1 w7 from below_step (by repeat (first | (with_reducible exact Below.refl _ _) | apply below_alloc | apply below_drew)) hb7); have c7 : w7.cell? ⟨gb, 0, none⟩ = some (.slice Av vis.length cv) := (blk_cell (blk_below HBX.out HB7.out) 0).trans rfl; have n7 : gb < w7.heap.size := blk_lt (blk_below HBX.out HB7.out); have HBx7 := zM hb7; clear hb7)
   | (refine Kd.R_append_step k60 (w0 := w1) B ?hw (.tmp 5) (.tmp 12) 42 60 (.agg #[(.int .u64 0), (.int .u64 0), (.slice none 0 0)]) 40 ?ho Tryd.underlying42 info_visit (by rfl) (by decide) (by omega) (.slice Av vis.length cv) vis ⟨⟨lv, ix⟩, hash⟩ [.int .u64 lv, .int .u64 ix, .slice A10 ([] ++ hash).length cc10] (fun _ => True) (fun k_ => some k_ ≠ (Value.slice Av vis.length cv).ownBlock) ?hs ?hx ?bM (fun _ h_ => ⟨trivial, h_⟩) (fun _ _ => trivial) ?bO ?bB ?bS ?bL ?_; (case ho => rfl); (case hw => rfl); (case hs => rfl); (case hx => rfl); (case bM => exact k60_mkM _ _ _ ⟨⟨lv, ix⟩, hash⟩ (Kd.R_mono (Kd.R_lower (Kd.R_apart' HR10.out (Kd.R_typed (Kd.R_below HR1.out HB10.out)) (by decide)) HBW.out) (fun _ h_ => h_.2))); (case bO => exact Kd.R_below HR1.out HB10.out); (case bB => exact HB10.out.mono HBW.out); (case bS => exact Nat.le_trans HBW.out HB10.out.size); (case bL => have := HL2.out; omega); intro v13 w13 hr13 hb13 hg13 hat13; have k13 := blk_grown (blk_below HBX.out HB10.out) hg13 (Kd.R_ne (Kd.R_below HR1.out HB10.out) (blk_below HBX.out HB10.out) (by decide)); have HK13 := zM k13; have c13 : w13.cell? ⟨gb, 0, none⟩ = some (.slice Av vis.length cv) := (blk_cell k13 0).trans rfl; have f13 := blk_frozen k13 0; have HR13 := zM hr13; have HB13 := zM hb13; have HT13 := zM ((HTK.out.below HB10.out).grown hg13 (fun k hk => by obtain ⟨cs_, hcs_⟩ := Kd.R_typed (Kd.R_below HR1.out HB10.out) k hk; exact ⟨_, hcs_, cs_, _, .inr rfl⟩)); obtain ⟨A13, cc13, rfl⟩ := Kd.R_slice hr13; clear k13 hr13 hb13 hg13 hat13)
   | (refine Kd.R_append_rows_step (Kd.int .u8) (w0 := w1) w1.heap.size ?hw (.tmp 8) (.tmp 9) 27 5 (.int .u8 0) 1 rfl Tryd.underlying27 info5 (by rfl) (by decide) (by omega) _ [] hash A hash.length c (fun _ => True) (fun _ => False) rfl rfl ?aO ?aR (fun _ _ h => h) (fun _ h => h.elim) (fun _ _ => trivial) ?aB ?aS ?aL ?_; (case hw => rfl); (case aR => first | exact Kd.C_below HC1.out HB7.out | exact Kd.C_alloc (Kd.C_below HC1.out HB7.out) _); (case aB => repeat (first | (with_reducible exact HB7.out) | apply below_alloc | apply below_drew)); (case aO => first | (refine emptyR _ _ ?_; exact HB7.out.size) | exact Kd.R_below (Kd.R_drew (emptyR w1 _ (Nat.le_refl _))) HBx7.out | exact Kd.R_below (emptyR w1.drew _ (Nat.le_refl _)) HBx7.out); (case aS => first | exact HB7.out.size | exact (below_alloc HB7.out _).size); (case aL => simp only [List.length_nil, Nat.zero_add]; have := HL1.out; omega); intro v10 w10 hr10 hb10 hg10 hat10; have HR10 := zM hr10; have HB10 := zM hb10; have c10 : w10.cell? ⟨gb, 0, none⟩ = some (.slice Av vis.length cv) := (blk_cell (blk_below HBX.out HB10.out) 0).trans rfl; have n10 : gb < w10.heap.size := blk_lt (blk_below HBX.out HB10.out); obtain ⟨A10, cc10, rfl⟩ := Kd.R_slice hr10; clear hr10 hb10 hg10 hat10))
 all_goals
  go_wp2
  go_end0
  have e13 : (vis ++ [(⟨⟨lv, ix⟩, hash⟩ : S60)]).length = vis.length + 1 := by simp
  have hs13 := Kd.R_set HR13.out HK13.out (by decide) 0 (.slice A13 (vis ++ [(⟨⟨lv, ix⟩, hash⟩ : S60)]).length cc13)
  rw [e13] at hs13
  exact ⟨rfl, _, blk_put HK13.out 0 _ rfl, hs13, (HB1.out.trans HB13.out).setCell hgb _, HT13.out.set HK13.out ⟨_, _, .inl rfl⟩ _⟩
theorem vst_rootHash (B gb : Nat) (hgb : B ≤ gb) : Vst (.func (.func 119) #[] #[.pointer (some ⟨gb, 0, none⟩)]) B gb :=
 ⟨_, rfl, isFc_func Tryd.func119 (by kernel_rfl) rfl _, fun vis lv ix A c hash w hV hB hC hc hl1 hl2 => by
  obtain ⟨vs, hbx, hR⟩ := hV
  refine (impl_RootHash1.calls B gb vs vis lv ix A c hash w hbx hgb hB hR hC hc hl1 hl2).mono ?_
  rintro e w' ⟨rfl, vs', h1, h2, h3, h4⟩
  exact ⟨rfl, ⟨vs', h1, h2⟩, h3, h4⟩⟩
def rtGo (hc : List Int → List Int → Option (List Int)) (L : List (List Int)) : Nat → List Int → Option (List Int)
 | 0, s => some s
 | j + 1, s => (hc (L.getD j []) s).bind fun y => rtGo hc L j y
def rtF (k : Nat) (a0 a1 a2 a3 a4 a5 : Int) (L : List (List Int)) : Option (List Int) :=
 if L.length < 1000000 then (if L = [] then some [] else rtGo (rgH k a0 a1 a2 a3 a4 a5) L (L.length - 1) (L.getD (L.length - 1) [])) else none
set_option maxHeartbeats 16000000 in
set_option maxRecDepth 100000 in
theorem compact_Range_GetRootHash.calls (k : Nat) (a0 a1 a2 a3 a4 a5 : Int) (B g gf gb : Nat) (fh fv : Value) (m : Nat) (v : Value) (L : List (List Int)) (vis : List S60) (r : List Int) (w : World)
  (hT : ∀ W, Below B w W → TabOK W) (hG : w.heap[g]? = some (.cells #[.pointer (some ⟨gf, 0, none⟩), .int .u64 0, .int .u64 (m : Int), v] 157 (0, 0))) (hF : w.heap[gf]? = some (.cells #[fh] 101 (0, 0)))
  (hm : m < 18446744073709551616) (hfh : IsFn Tryd.prog fh 52 (.agg #[.int .i64 a0, .int .i64 a1, .int .i64 a2, .int .u64 a3, .int .u64 a4, .int .u64 a5])) (hfv : Vst fv B gb) (hV : Vs w B gb vis) (hvl : vis.length < 1000000) (hB : B ≤ w.heap.size)
  (hR : (Kd.slice 5 (Kd.int .u8)).R 27 w B (fun _ => True) v L) (h : rtF k a0 a1 a2 a3 a4 a5 L = some r) :
  Calls Tryd.prog 118 #[.pointer (some ⟨g, 0, none⟩), fv] w fun e' w' => ∃ A c, e' = .returned (.tuple #[.slice A r.length c, .nilIface]) ∧ r.length ≤ c ∧ (Kd.int .u8).C w' A r.length r ∧ Below B w w' ∧ ∃ vis', Vs w' B gb vis' := by
 unfold rtF at h
 by_cases hl : L.length < 1000000
 case neg => rw [if_neg hl] at h; exact absurd h (by simp)
 rw [if_pos hl] at h
 obtain ⟨A, c, rfl⟩ := Kd.R_slice hR
 obtain ⟨f, hfe, hf, hcl⟩ := hfv
 subst hfe
 have q0 : w.cell? ⟨g, 0, none⟩ = some (.pointer (some ⟨gf, 0, none⟩)) := (blk_cell hG 0).trans rfl
 have q1 : w.cell? ⟨g, 1, none⟩ = some (.int .u64 0) := (blk_cell hG 1).trans rfl
 have q2 : w.cell? ⟨g, 2, none⟩ = some (.int .u64 (m : Int)) := (blk_cell hG 2).trans rfl
 have q3 : w.cell? ⟨g, 3, none⟩ = some (.slice A L.length c) := (blk_cell hG 3).trans rfl
 have HT := zM hT
 have HG := zM hG
 have HF := zM hF
 have HFH := zM hfh
 have HF_ := zM hf
 have HCL := zM hcl
 have HV := zM hV
 have HVL := zM hvl
 have HBB := zM hB
 clear hT hG hF hfh hf hcl hV hvl hB
 by_cases h0 : L = []
 ·rw [if_pos h0] at h
  injection h with h
  subst h
  subst h0
  clear hR
  go_enter Tryd.func118, Tryd.ntmps118
  go_wp2
  go_ret2
  exact ⟨none, 0, rfl, Nat.le_refl _, Kd.C_nil _ _, Below.refl _ _, vis, HV.out⟩
 ·rw [if_neg h0] at h
  obtain ⟨n, hn⟩ : ∃ n, L.length = n + 1 := ⟨L.length - 1, by have : L.length ≠ 0 := fun e => h0 (List.length_eq_zero_iff.1 e); omega⟩
  rw [hn, Nat.add_sub_cancel] at h
  obtain ⟨gh, cg, eA, hBg, hgl, cells, hcl⟩ := row_form2 hR (by omega)
  obtain ⟨rfl, rfl⟩ : A = some ⟨gh, 0, none⟩ ∧ c = cg := by injection eA with e1 e2 e3; exact ⟨e1, e3⟩
  obtain ⟨Ae, de, ecx, hE⟩ := row_elem2 hR n (by omega)
  have HH := zM h
  have HE := zM hE
  have HR := zM hR
  have HN := zM hn
  have HM := zM hm
  have HLl := zM hl
  have hw1 : wrap64 ((L.length : Int) - 1) = (n : Int) := by unfold wrap64; omega
  have hw2 : wrap64 ((L.length : Int) - 2) = (n : Int) - 1 := by unfold wrap64; omega
  have hne : ¬ ((L.length : Int) = 0) := by omega
  have j0 : (0 : Int) ≤ (n : Int) := by omega
  have j1 : (n : Int) < (L.length : Int) := by omega
  clear h hE hR eA hBg hgl cells hcl hn hm hl h0
  go_enter Tryd.func118, Tryd.ntmps118
  go_wp2
  repeat (go_quiet (fail); try go_wp2)
  have HW2 := zM hw2
  rw [show ((L.length : Int) == 0) = false from beq_eq_false_iff_ne.mpr hne]
  clear hw1 hw2 hne j0 j1 ecx q0 q1 q2 q3
  go_loopg [7, 8, 9] (n + 1) (fun kq v7 v8 v9 w' => ∃ (j sz : Nat) (s : List Int) (A2 : Option Addr) (c2 : Nat) (vis1 : List S60), v7 = .slice A2 s.length c2 ∧ v8 = .int .i64 ((j : Int) - 1) ∧ v9 = .int .u64 (sz : Int) ∧ Aside0 (kq = j + 1) ∧ Aside0 (j ≤ n ∧ sz < 18446744073709551616 ∧ vis1.length + j = vis.length + n) ∧ Aside0 (rtGo (rgH k a0 a1 a2 a3 a4 a5) L j s = some r) ∧ Aside0 ((Kd.int .u8).R 5 w' B (fun _ => True) v7 s) ∧ Aside0 (Vs w' B gb vis1) ∧ Aside0 (Below B w w') ∧ Aside0 (VKeep w w'))
  case atStart =>
   exact ⟨n, m, _, Ae, de, vis, rfl, by rw [HW2.out], rfl, ⟨rfl⟩, ⟨Nat.le_refl _, HM.out, rfl⟩, HH, ⟨Kd.R_drewN HE.out _⟩, ⟨HV.out.below (pw_below_drewN (Below.refl _ _) _)⟩, ⟨(pw_below_drewN (Below.refl _ _) _).mono HBB.out⟩, ⟨TKeep.of_below (pw_below_drewN (Below.refl _ _) _)⟩⟩
  case round =>
   clear HH HE HV
   obtain ⟨j, sz, s, A2, c2, vis1, rfl, rfl, rfl, HQ, HNN, HM1, HS, HV, HB, HK⟩ := hrel
   have hGr := HK.out.blk HG.out (by decide) (by decide)
   have hFr := HK.out.blk HF.out (by decide) (by decide)
   have HRr := zM (HK.out.R HR.out (by decide))
   have q0 : wr.cell? ⟨g, 0, none⟩ = some (.pointer (some ⟨gf, 0, none⟩)) := (blk_cell hGr 0).trans rfl
   have q3 : wr.cell? ⟨g, 3, none⟩ = some (.slice (some ⟨gh, 0, none⟩) L.length c) := (blk_cell hGr 3).trans rfl
   have qf : wr.cell? ⟨gf, 0, none⟩ = some fh := (blk_cell hFr 0).trans rfl
   clear hGr hFr
   cases j with
   | zero =>
    have hM := HM1.out
    rw [rtGo] at hM
    have hr := (Option.some.inj hM).symm
    subst hr
    have hge : ¬ (0 ≤ ((0 : Nat) : Int) - 1) := by omega
    clear hM
    go_wp2
    go_ret2
    exact ⟨A2, c2, rfl, (Kd.R_reads' HS.out).2.1, (Kd.R_reads' HS.out).2.2, HB.out, vis1, HV.out⟩
   | succ i =>
    have hM := HM1.out
    clear HM1
    rw [rtGo] at hM
    obtain ⟨z, hz, hM2⟩ := Option.bind_eq_some_iff.mp hM
    obtain ⟨hz, hzl⟩ := rgH_some hz
    clear hM
    obtain ⟨Ae', de', ecx, hE⟩ := row_elem2 HRr.out i (by have := HN.out; have := HNN.out.1; omega)
    generalize hl_ : L.getD i [] = l at *
    have HE := zM hE
    have HZ := zM hz
    have HZL := zM hzl
    have HM2 := zM hM2
    have ej : (((i + 1 : Nat) : Int) - 1) = (i : Int) := by omega
    have hge : (0 : Int) ≤ (i : Int) := by omega
    have j1 : (i : Int) < (L.length : Int) := by have := HN.out; have := HNN.out.1; omega
    have hnn := fact_fn
    have hle := Nat.le_trans HBB.out HB.out.size
    have HLE := zM hle
    obtain ⟨b1, hb1, hb2⟩ : ∃ b1 : Nat, IntKind.u64.wrap ((sz : Int) - 1) = (b1 : Int) ∧ b1 < 18446744073709551616 := by
     by_cases hz0 : sz = 0
     ·subst hz0; exact ⟨18446744073709551615, by decide, by decide⟩
     ·exact ⟨sz - 1, by rw [show (sz : Int) - 1 = ((sz - 1 : Nat) : Int) by omega]; exact IntWalk.u64_in _ ⟨by omega, by have := HNN.out.2.1; omega⟩, by have := HNN.out.2.1; omega⟩
    have hand := bits_and_u64_nat sz b1 HNN.out.2.1 hb2
    have hsl : sz &&& b1 < 18446744073709551616 := Nat.lt_of_le_of_lt Nat.and_le_left HNN.out.2.1
    have htz : bits_TrailingZeros64.f ((sz &&& b1 : Nat) : Int) = some (Lib.ctz 64 (sz &&& b1) : Int) := by
     unfold bits_TrailingZeros64.f
     rw [if_pos ⟨by omega, by omega⟩, Int.toNat_natCast]
    generalize sz &&& b1 = sz2 at *
    generalize Lib.ctz 64 sz2 = tz at *
    have HTZ := zM htz
    have HSL := zM hsl
    clear hz hzl hM2 hE hl_ hle hb2 hsl htz
    rw [ej]
    clear ej
    go_upto_region 10 with (fail)
    go_still_tail 15, (by kernel_rfl)
    go_upto_region 11 with ((with_reducible refine gate_value (x := .tmp 49) rfl ?_); refine callsFv_ (some 58) rfl rfl fh _ HFH.out #[.slice Ae' l.length de', .slice A2 s.length c2] #[.agg #[.int .i64 a0, .int .i64 a1, .int .i64 a2, .int .u64 a3, .int .u64 a4, .int .u64 a5], .slice Ae' l.length de', .slice A2 s.length c2] rfl rfl (by first | rfl | (simp only [Act.eval]; rfl)) (by (try simp only [List.map_toArray, List.map_cons, List.map_nil]); first | done | rfl) ?_; (with_reducible refine (impl_toy_HashChildren.calls k a0 a1 a2 a3 a4 a5 _ _ l _ _ s z _ ?side1 ?side2 ?side3 ?side4 HZ.out).mono ?_); (case side1 => exact Kd.C_drew (Kd.R_reads' HE.out).2.2); (case side2 => exact (Kd.R_reads' HE.out).2.1); (case side3 => exact Kd.C_drew (Kd.R_reads' HS.out).2.2); (case side4 => exact (Kd.R_reads' HS.out).2.1); rintro e' w7 ⟨v7, rfl, ho7, hb7⟩; refine ⟨_, rfl, ?_⟩; have HO7 := zM ho7; have HB7 := zM (below_step (below_drew (Below.refl wr.heap.size wr)) hb7); clear ho7 hb7)
    obtain ⟨A7, c7, rfl⟩ := Kd.R_slice HO7.out
    have hwi : wrap64 ((i : Int) - 1) = (i : Int) - 1 := by unfold wrap64; have := HNN.out.1; have := HLl.out; have := HN.out; omega
    go_wp2_with (first | (go_at_call 83; (with_reducible refine (bits_TrailingZeros64.calls _ _ _ ?st HTZ.out).mono ?_); (case st => exact HT.out _ (HB.out.trans (HB7.out.mono HLE.out))); rintro e' w' ⟨rfl, ⟨n5, rfl⟩⟩) | (go_at_call 92; (with_reducible refine (compact_NewNodeID.calls _ _ _ _ _ rfl).mono ?_); rintro e' w8 ⟨rfl, hb8⟩; have HB8 := zM (below_step (pw_below_drewN (Below.refl w7.heap.size w7) n5) hb8); clear hb8) | ((with_reducible refine gate_value (x := .tmp 72) rfl ?_); refine callsFc_ (some 77) rfl rfl _ _ HF_.out #[.agg #[.int .u64 (IntKind.u64.wrap (IntKind.u64.wrap (tz : Int) + 1)), .int .u64 ((sz2 : Int) / 2 ^ min (IntKind.u64.wrap (IntKind.u64.wrap (tz : Int) + 1)).toNat 64)], .slice A7 z.length c7] #[.agg #[.int .u64 (IntKind.u64.wrap (IntKind.u64.wrap (tz : Int) + 1)), .int .u64 ((sz2 : Int) / 2 ^ min (IntKind.u64.wrap (IntKind.u64.wrap (tz : Int) + 1)).toNat 64)], .slice A7 z.length c7, .pointer (some ⟨gb, 0, none⟩)] rfl rfl (by first | rfl | (simp only [Act.eval]; rfl)) (by (try simp only [List.map_toArray, List.map_cons, List.map_nil]); first | done | rfl) ?_; (with_reducible refine (HCL.out vis1 _ _ A7 c7 z _ ?side1 ?side2 ?side3 ?side4 HZL.out ?side5).mono ?_); (case side1 => exact (HV.out.below HB7.out).below HB8.out); (case side2 => exact Nat.le_trans HLE.out (Nat.le_trans HB7.out.size HB8.out.size)); (case side3 => exact Kd.C_below (Kd.R_reads' HO7.out).2.2 HB8.out); (case side4 => exact (Kd.R_reads' HO7.out).2.1); (case side5 => have := HNN.out.2.2; have := HVL.out; have := HN.out; have := HLl.out; omega); rintro e' w9 ⟨rfl, hv9, hb9, hk9⟩; refine ⟨_, rfl, ?_⟩; have HV9 := zM hv9; have HB9 := zM hb9; have HK9 := zM hk9; clear hv9 hb9 hk9))
    go_roundg (i + 1)
    case measure => have := HQ.out; omega
    case rel =>
     refine ⟨i, sz2, z, A7, c7, _, rfl, by rw [hwi], rfl, ⟨rfl⟩, ⟨by have := HNN.out.1; omega, HSL.out, by rw [List.length_append, List.length_singleton]; have := HNN.out.2.2; omega⟩, HM2, ⟨?_⟩, ⟨HV9.out⟩, ⟨?_⟩, ⟨?_⟩⟩
     ·exact HK9.out.R (Kd.R_below (Kd.R_lower HO7.out HLE.out) HB8.out) (by decide)
     ·exact HB.out.trans ((HB7.out.mono HLE.out).trans ((HB8.out.mono (Nat.le_trans HLE.out HB7.out.size)).trans HB9.out))
     ·exact ((HK.out.below HB7.out).below HB8.out).trans HK9.out
def impl_RootHash.f (k : Nat) (a0_0 a0_1 a0_2 a0_3 a0_4 a0_5 : Int) (a1_0 a1_1 : Int) (l1_2 : List (List Int)) : Option (List Int) :=
 (impl_texts.f k l1_2).bind fun x => if rgNew a1_0 a1_1 x ∧ a1_0 = 0 then (rtF k a0_0 a0_1 a0_2 a0_3 a0_4 a0_5 x).bind fun r => if r.length < 140737488355328 then some r else none else none
theorem four_blocksR (w : World) (o0 o1 o2 : Obj) (w3 : World) (hw3 : w3 = ((w.alloc o0).alloc o1).alloc o2) :
  Below w.heap.size w w3 ∧ w3.heap.size = w.heap.size + 3 ∧ w3.heap[w.heap.size + 1]? = some o1 ∧ w3.heap[w.heap.size + 1 + 1]? = some o2 := by
 subst hw3
 have s1 : (w.alloc o0).heap.size = w.heap.size + 1 := Array.size_push _
 have s2 : ((w.alloc o0).alloc o1).heap.size = w.heap.size + 1 + 1 := (Array.size_push _).trans (by rw [s1])
 refine ⟨below_alloc (below_alloc (below_alloc (Below.refl _ _) _) _) _, (Array.size_push _).trans (by rw [s2]), ?_, ?_⟩
 ·refine blk_alloc ?_ _
  rw [← s1]
  exact blk_new _ _
 ·rw [← s2]
  exact blk_new _ _
set_option maxHeartbeats 16000000 in
set_option maxRecDepth 100000 in
theorem impl_RootHash.calls (k : Nat) (a0_0 a0_1 a0_2 a0_3 a0_4 a0_5 : Int) (a1_0 a1_1 : Int) (A1_2 : Option Addr) (c1_2 : Nat) (l1_2 : List (List Int)) (r : List Int) (w : World) (hT : TabOK w)
  (hr1_2 : Kd.C (Kd.slice 5 (Kd.int .u8)) w A1_2 l1_2.length l1_2) (hc1_2 : l1_2.length ≤ c1_2) (h : impl_RootHash.f k a0_0 a0_1 a0_2 a0_3 a0_4 a0_5 a1_0 a1_1 l1_2 = some r) :
  Calls Tryd.prog 107 #[.agg #[.int .i64 a0_0, .int .i64 a0_1, .int .i64 a0_2, .int .u64 a0_3, .int .u64 a0_4, .int .u64 a0_5], .agg #[.int .u64 a1_0, .int .u64 a1_1, .slice A1_2 l1_2.length c1_2]] w fun e w' =>
   ∃ v0 v1, e = .returned (.tuple #[v0, v1, .bool true]) ∧ (Kd.int .u8).R 5 w' w.heap.size (fun _ => True) v0 r ∧ Below w.heap.size w w' := by
 have hmf := fact_func
 unfold impl_RootHash.f at h
 obtain ⟨x, hx, h⟩ := Option.bind_eq_some_iff.mp h
 by_cases hn : rgNew a1_0 a1_1 x ∧ a1_0 = 0
 case neg => rw [if_neg hn] at h; exact absurd h (by simp)
 rw [if_pos hn] at h
 obtain ⟨r_, hf, h2⟩ := Option.bind_eq_some_iff.mp h
 clear h
 by_cases hrl : r_.length < 140737488355328
 case neg => rw [if_neg hrl] at h2; exact absurd h2 (by simp)
 rw [if_pos hrl] at h2
 obtain rfl := Option.some.inj h2
 clear h2
 obtain ⟨⟨hbe, hsz, he0, he1⟩, rfl⟩ := hn
 obtain ⟨m0, rfl⟩ := Int.eq_ofNat_of_zero_le he0
 have HC1 := zM hc1_2
 have HX := zM hx
 have HFO := zM hf
 have HBE := zM hbe
 have HSZ := zM hsz
 have HT := zM hT
 have HM0 := zM (show m0 < 18446744073709551616 by omega)
 have HRL := zM hrl
 clear hx hf hbe hsz he0 he1 hT hc1_2 hrl
 obtain ⟨w3, hw3⟩ : ∃ w3, w3 = (((w.alloc (.cells #[.int .i64 a0_0, .int .i64 a0_1, .int .i64 a0_2, .int .u64 a0_3, .int .u64 a0_4, .int .u64 a0_5] 24)).alloc (.cells #[.int .u64 0, .int .u64 (m0 : Int), .slice A1_2 l1_2.length c1_2] 39)).alloc (.cells #[.func (.func 52) #[.agg #[.int .i64 a0_0, .int .i64 a0_1, .int .i64 a0_2, .int .u64 a0_3, .int .u64 a0_4, .int .u64 a0_5]] #[]] 101)) := ⟨_, rfl⟩
 obtain ⟨hb3, hs3, hk1, hk3⟩ := four_blocksR w _ _ _ w3 hw3
 have HB3 := zM hb3
 have HS3 := zM hs3
 have HK3 := zM hk3
 have HQ := zM (HeldR.of hk1)
 have HR1 := zM (Kd.C_below hr1_2 hb3)
 obtain ⟨q0, q1, q2⟩ := HQ.out
 have HFH := zM (isFn_func Tryd.func52 (by kernel_rfl) rfl (.agg #[.int .i64 a0_0, .int .i64 a0_1, .int .i64 a0_2, .int .u64 a0_3, .int .u64 a0_4, .int .u64 a0_5]) : IsFn Tryd.prog (.func (.func 52) #[.agg #[.int .i64 a0_0, .int .i64 a0_1, .int .i64 a0_2, .int .u64 a0_3, .int .u64 a0_4, .int .u64 a0_5]] #[]) 52 (.agg #[.int .i64 a0_0, .int .i64 a0_1, .int .i64 a0_2, .int .u64 a0_3, .int .u64 a0_4, .int .u64 a0_5]))
 clear hb3 hs3 hk1 hk3 hr1_2
 go_enter Tryd.func107, Tryd.ntmps107
 go_upto_region 2 with (fail)
 rw [← hw3]
 clear hw3
 have HGA := zM (show w.heap.size + 1 < w3.heap.size by rw [HS3.out]; omega)
 have HGF := zM (show w.heap.size ≤ w.heap.size + 1 + 1 by omega)
 have HW3 := zM (show w.heap.size ≤ w3.heap.size by rw [HS3.out]; omega)
 generalize hgw : w.heap.size = gw at *
 have HGW := zM hgw
 clear hgw HS3
 generalize gw + 1 + 1 = gf at *
 generalize gw + 1 = ga at *
 go_region_held3 (fun w' => w'.cell? ⟨ga, 0, none⟩ = some (.int .u64 0) ∧ w'.cell? ⟨ga, 1, none⟩ = some (.int .u64 (m0 : Int)) ∧ w'.cell? ⟨ga, 2, none⟩ = some (.slice A1_2 l1_2.length c1_2)) (first | exact HS7.out | exact HS6.out | go_keep)
  (first
   | (go_at_call 46; (with_reducible refine (impl_texts.calls k A1_2 c1_2 l1_2 x _ ?side1 HC1.out HX.out).mono ?_); (case side1 => first | exact HR1.out | exact Kd.C_drew HR1.out | exact Kd.C_drewN HR1.out _); rintro e' w6 ⟨v6, rfl, hS6, hB6⟩; have hR6 := Kd.S_R hS6; obtain ⟨A6, c6, rfl⟩ := Kd.R_slice hR6; have hb6 : Below w3.heap.size w3 w6 := (by first | exact hB6 | exact below_step (below_drew (Below.refl _ _)) hB6 | exact below_step (pw_below_drewN (Below.refl _ _) _) hB6); have HB6 := zM hb6; have HS6 := zM (HQ.out.below hb6 HGA.out); have HX6 := zM hR6; clear hS6 hB6 hb6 hR6)
   | (go_at_call 53; (with_reducible refine (compact_NewRange.good _ 0 (m0 : Int) A6 x.length c6 _ HBE.out HSZ.out).mono ?_); rintro e' w7 ⟨g7, rfl, hg7, hR7, hB7⟩; have HX7 := zM (Kd.R_lower (by first | exact Kd.R_below HX6.out hB7 | exact Kd.R_below (Kd.R_drew HX6.out) hB7 | exact Kd.R_below (Kd.R_drewN HX6.out _) hB7) HW3.out : (Kd.slice 5 (Kd.int .u8)).R 27 w7 gw (fun _ => True) (.slice A6 x.length c6) x); have HB7 := zM (by first | exact below_step HB6.out hB7 | exact below_step (below_drew HB6.out) hB7 | exact below_step (pw_below_drewN HB6.out _) hB7 : Below w3.heap.size w3 w7); have HS7 := zM (HQ.out.below HB7.out HGA.out); have HR7 := zM hR7; clear hB7 hR7 hg7))
 all_goals
  clear q0 q1 q2 HQ HS7 HS6 HX6 HGA HB6
  go_upto_region 6 with (((with_reducible refine gate_dst (N := 10) rfl ?_); refine bx 10 #[.slice none 0 0] 42 ?_; intro gb hgb w10 hbox hb; have HBX := zM hb; have HX10 := zM hbox; have HGB0 := zM (Nat.le_of_eq hgb.symm); clear hb hbox hgb))
  have HB10 := zM (show Below w3.heap.size w3 w10 from below_step HB7.out HBX.out)
  have HGB := zM (Nat.le_trans HW3.out (Nat.le_trans HB7.out.size HGB0.out))
  have HV10 := zM (show Vs w10 gw gb [] from ⟨.slice none 0 0, HX10.out, Kd.R_nil _ _ _ _ _⟩)
  have HG10 := zM (RgB.below HR7.out HBX.out)
  have HX11 := zM (Kd.R_below HX7.out HBX.out)
  have HK310 := zM (blk_below HK3.out HB10.out)
  have HB := zM (show Below gw w w10 from HB3.out.trans (HB10.out.mono HW3.out))
  unfold RgB at HG10
  go_wp2_with (go_at_call 118; (with_reducible refine (compact_Range_GetRootHash.calls k a0_0 a0_1 a0_2 a0_3 a0_4 a0_5 gw g7 gf gb _ _ m0 (.slice A6 x.length c6) x [] r_ _ ?s1 HG10.out HK310.out HM0.out HFH.out ?s2 HV10.out (by decide) ?s3 HX11.out HFO.out).mono ?_); (case s1 => exact fun W hW => TabOK.below HT.out (by rw [HGW.out]; exact HB.out.trans hW)); (case s2 => exact vst_rootHash gw gb HGB.out); (case s3 => exact Nat.le_trans HW3.out HB10.out.size); rintro e' w11 ⟨A11, c11, rfl, h1, h2, h3, vis', h4⟩; have K1 := zM h1; have K2 := zM h2; have K3 := zM h3; have K4 := zM h4; clear h1 h2 h3 h4)
  have HB11 := zM (HB.out.trans K3.out)
  obtain ⟨vs, hvb, hvR⟩ := K4.out
  have HVB := zM hvb
  have qs : w11.cell? ⟨gb, 0, none⟩ = some vs := (blk_cell hvb 0).trans rfl
  clear hvR hvb
  go_region_law
   (first
    | (refine Kd.R_append_rows_step (Kd.int .u8) (w0 := w11) w11.heap.size ?hw (.const (.slice none 0 0)) (.tmp 39) 27 5 (.int .u8 0) 1 rfl Tryd.underlying27 info5 (by rfl) (by decide) (by omega) (.slice none 0 0) [] r_ A11 r_.length c11 (fun _ => True) (fun _ => False) rfl rfl ?aO ?aR (fun _ _ h => h) (fun _ h => h.elim) (fun _ _ => trivial) ?aB ?aS ?aL ?_; (case hw => rfl); (case aR => first | exact K2.out | exact Kd.C_drew K2.out); (case aB => first | exact below_drew (Below.refl _ _) | exact Below.refl _ _); (case aO => exact Kd.R_nil _ _ _ _ _); (case aS => exact Nat.le_refl _); (case aL => simp only [List.length_nil, Nat.zero_add]; have := HRL.out; omega); intro v12 w12 hr12 hb12 hg12 hat12; rw [List.nil_append] at hr12; have HR12 := zM hr12; have HB12 := zM hb12; have q12 : w12.cell? ⟨gb, 0, none⟩ = some vs := (blk_cell (blk_below HVB.out hb12) 0).trans rfl; clear hr12 hb12 hg12 hat12))
  all_goals
   go_wp2
   refine bodyPost_ret (results_list (rs := [.tmp 4, .tmp 5, .tmp 6]) rfl (by simp) (.tmp (.tmp (.tmp .nil)))) rfl ?_
   have hgw := HGW.out
   subst hgw
   exact ⟨_, _, rfl, Kd.R_lower HR12.out HB11.out.size, HB11.out.trans (HB12.out.mono HB11.out.size)⟩
def bytes_Equal.f (l0 : List Int) (l1 : List Int) : Option (Bool) := some ((strOfNums l0).toList == (strOfNums l1).toList)
set_option maxHeartbeats 8000000 in
set_option maxRecDepth 100000 in
theorem bytes_Equal.calls (A0 : Option Addr) (c0 : Nat) (l0 : List Int) (A1 : Option Addr) (c1 : Nat) (l1 : List Int) (r : Bool) (w : World) (hr0 : Kd.C (Kd.int .u8) w A0 l0.length l0) (hc0 : l0.length ≤ c0) (hr1 : Kd.C (Kd.int .u8) w A1 l1.length l1) (hc1 : l1.length ≤ c1) (h : bytes_Equal.f l0 l1 = some r) :
  Calls Tryd.prog 110 #[.slice A0 l0.length c0, .slice A1 l1.length c1] w fun e w' => e = .returned (.bool r) ∧ Drawn0 w w' := by
 have HR0 := zM hr0
 have HC0 := zM hc0
 clear hr0 hc0
 have HR1 := zM hr1
 have HC1 := zM hc1
 clear hr1 hc1
 have H : (some ((strOfNums l0).toList == (strOfNums l1).toList)) = some r := h
 clear h
 obtain rfl := Option.some.inj H
 have hcv3 := Kd.C_string (P := Tryd.prog) (A := A0) (c := c0) Tryd.underlying27 Tryd.underlying5 Tryd.underlying9 HR0.out
 have hcv3b := fun m_ : Nat => Kd.C_string (P := Tryd.prog) (A := A0) (c := c0) Tryd.underlying27 Tryd.underlying5 Tryd.underlying9 (Kd.C_drewN HR0.out m_)
 have hcv4 := Kd.C_string (P := Tryd.prog) (A := A1) (c := c1) Tryd.underlying27 Tryd.underlying5 Tryd.underlying9 HR1.out
 have hcv4b := fun m_ : Nat => Kd.C_string (P := Tryd.prog) (A := A1) (c := c1) Tryd.underlying27 Tryd.underlying5 Tryd.underlying9 (Kd.C_drewN HR1.out m_)
 go_enter Tryd.func110, Tryd.ntmps110
 go_wp2
 go_ret
 exact ⟨by first | rfl | (simp; done) | (simp [*]; done), by repeat (first | exact Drawn0.refl _ | apply Drawn0.step)⟩
def laws_zzFits2.l0 : Nat → List (List Int) → Int → Int → Option (Bool)
 | 0, _, _, _ => none
 | k + 1, x8, x9, x10 => if x10 < x9 then (if 0 ≤ x10 then (if x10 < (x8.length : Int) then (if ((rd_L1 x8 x10).length : Int) > 2147483647 then (some false) else (laws_zzFits2.l0 k x8 x9 (wrap64 (x10 + 1)))) else (none)) else (none)) else (some true)
def laws_zzFits2.f (k : Nat) (l0 : List (List Int)) : Option (Bool) := if (l0.length : Int) > 2147483647 then (some false) else (laws_zzFits2.l0 k l0 (l0.length : Int) 0)
set_option maxHeartbeats 8000000 in
set_option maxRecDepth 100000 in
theorem laws_zzFits2.calls (k : Nat) (A0 : Option Addr) (c0 : Nat) (l0 : List (List Int)) (r : Bool) (w : World) (hr0 : Kd.C (Kd.slice 5 (Kd.int .u8)) w A0 l0.length l0) (hc0 : l0.length ≤ c0) (h : laws_zzFits2.f k l0 = some r) :
  Calls Tryd.prog 12 #[.slice A0 l0.length c0] w fun e w' => e = .returned (.bool r) ∧ Drawn0 w w' := by
 have HR0 := zM hr0
 have HC0 := zM hc0
 clear hr0 hc0
 have H : (if (l0.length : Int) > 2147483647 then (some false) else (laws_zzFits2.l0 k l0 (l0.length : Int) 0)) = some r := h
 clear h
 by_cases c2 : (l0.length : Int) > 2147483647
 ·rw [if_pos c2] at H
  have c2b0 : decide (2147483647 < (l0.length : Int)) = true := decide_eq_true c2
  have c2b1 : decide (2147483647 < l0.length) = true := decide_eq_true (by omega)
  clear c2
  obtain rfl := Option.some.inj H
  go_enter Tryd.func12, Tryd.ntmps12
  go_wp2
  go_ret
  exact ⟨by first | rfl | (simp; done) | (simp [*]; done), by repeat (first | exact Drawn0.refl _ | apply Drawn0.step)⟩
 ·rw [if_neg c2] at H
  have c2b0 : decide (2147483647 < (l0.length : Int)) = false := decide_eq_false c2
  have c2b1 : decide (2147483647 < l0.length) = false := decide_eq_false (by omega)
  clear c2
  have H' := zM H
  clear H
  go_enter Tryd.func12, Tryd.ntmps12
  go_wp2
  go_loopg [10] k (fun kq v10 w' => ∃ (x10_1 : Int), v10 = .int .i64 x10_1 ∧ Aside0 (laws_zzFits2.l0 kq l0 (l0.length : Int) x10_1 = some r) ∧ Aside0 (kq ≤ k) ∧ Drawn0 w w')
  case atStart => exact ⟨(0), sR, H', ⟨Nat.le_refl _⟩, by repeat (first | exact Drawn0.refl _ | apply Drawn0.step)⟩
  case round =>
   clear H'
   try clear c1
   try clear c2
   try clear c2b0
   try clear c2b1
   try clear p2
   obtain ⟨x10_1, rfl, HA, HK1, ⟨m1, rfl⟩⟩ := hrel
   cases gk with
   | zero => exact absurd HA.out (by simp [laws_zzFits2.l0])
   | succ k1 =>
    have H := HA.out
    clear HA
    simp only [laws_zzFits2.l0] at H
    by_cases c3 : x10_1 < (l0.length : Int)
    ·rw [if_pos c3] at H
     have c3b0 : decide (x10_1 < (l0.length : Int)) = true := decide_eq_true c3
     clear c3
     by_cases c4 : 0 ≤ x10_1
     ·rw [if_pos c4] at H
      have c4b0 : decide (0 ≤ x10_1) = true := decide_eq_true c4
      clear c4
      by_cases c5 : x10_1 < (l0.length : Int)
      ·rw [if_pos c5] at H
       have c5b0 : decide (x10_1 < (l0.length : Int)) = true := decide_eq_true c5
       clear c5
       by_cases c6 : ((rd_L1 l0 x10_1).length : Int) > 2147483647
       ·rw [if_pos c6] at H
        have c6b0 : decide (2147483647 < ((rd_L1 l0 x10_1).length : Int)) = true := decide_eq_true c6
        have c6b1 : decide (2147483647 < (rd_L1 l0 x10_1).length) = true := decide_eq_true (by omega)
        clear c6
        obtain rfl := Option.some.inj H
        have p101 : 0 ≤ (x10_1 : Int) := dA
        have q101 : x10_1 < (l0.length : Int) := dA
        obtain ⟨ad101, A101_0, c101_0, e101, hx101_0, hl101_0, hi101_0⟩ := at_L1 HR0.out x10_1 p101 q101
        cases e101
        have HR101_0 := zM hi101_0
        have HC101_0 := zM hl101_0
        clear hi101_0 hl101_0
        replace p101 := eq_true p101
        replace q101 := eq_true q101
        go_wp2
        go_ret
        exact ⟨by first | rfl | (simp; done) | (simp [*]; done), by repeat (first | exact Drawn0.refl _ | apply Drawn0.step)⟩
       ·rw [if_neg c6] at H
        have c6b0 : decide (2147483647 < ((rd_L1 l0 x10_1).length : Int)) = false := decide_eq_false c6
        have c6b1 : decide (2147483647 < (rd_L1 l0 x10_1).length) = false := decide_eq_false (by omega)
        clear c6
        have H' := zM H
        clear H
        have p101 : 0 ≤ (x10_1 : Int) := dA
        have q101 : x10_1 < (l0.length : Int) := dA
        obtain ⟨ad101, A101_0, c101_0, e101, hx101_0, hl101_0, hi101_0⟩ := at_L1 HR0.out x10_1 p101 q101
        cases e101
        have HR101_0 := zM hi101_0
        have HC101_0 := zM hl101_0
        clear hi101_0 hl101_0
        replace p101 := eq_true p101
        replace q101 := eq_true q101
        go_wp2
        go_roundg k1
        case measure => have := HK1.out; omega
        case rel => exact ⟨(wrap64 (x10_1 + 1)), sR, H', ⟨by have := HK1.out; omega⟩, by repeat (first | exact Drawn0.refl _ | apply Drawn0.step)⟩
      ·rw [if_neg c5] at H
       exact absurd H (by simp)
     ·rw [if_neg c4] at H
      exact absurd H (by simp)
    ·rw [if_neg c3] at H
     have c3b0 : decide (x10_1 < (l0.length : Int)) = false := decide_eq_false c3
     clear c3
     obtain rfl := Option.some.inj H
     go_wp2
     go_ret
     exact ⟨by first | rfl | (simp; done) | (simp [*]; done), by repeat (first | exact Drawn0.refl _ | apply Drawn0.step)⟩
def laws_logSmall.l0 : Nat → List (List Int) → List (List Int) → Int → Int → Option (Bool)
 | 0, _, _, _, _ => none
 | k + 1, x0, x5, x6, x7 => if x7 < x6 then (if 0 ≤ x7 then (if x7 < (x5.length : Int) then (if ((rd_L1 x5 x7).length : Int) > 5000 then (some false) else (laws_logSmall.l0 k x0 x5 x6 (wrap64 (x7 + 1)))) else (none)) else (none)) else (some (decide ((x0.length : Int) ≤ 300)))
def laws_logSmall.f (k : Nat) (l0 : List (List Int)) : Option (Bool) := laws_logSmall.l0 k l0 l0 (l0.length : Int) 0
set_option maxHeartbeats 8000000 in
set_option maxRecDepth 100000 in
theorem laws_logSmall.calls (k : Nat) (A0 : Option Addr) (c0 : Nat) (l0 : List (List Int)) (r : Bool) (w : World) (hr0 : Kd.C (Kd.slice 5 (Kd.int .u8)) w A0 l0.length l0) (hc0 : l0.length ≤ c0) (h : laws_logSmall.f k l0 = some r) :
  Calls Tryd.prog 13 #[.slice A0 l0.length c0] w fun e w' => e = .returned (.bool r) ∧ Drawn0 w w' := by
 have HR0 := zM hr0
 have HC0 := zM hc0
 clear hr0 hc0
 have H : (laws_logSmall.l0 k l0 l0 (l0.length : Int) 0) = some r := h
 clear h
 have H' := zM H
 clear H
 go_enter Tryd.func13, Tryd.ntmps13
 go_wp2
 go_loopg [7] k (fun kq v7 w' => ∃ (x7_1 : Int), v7 = .int .i64 x7_1 ∧ Aside0 (laws_logSmall.l0 kq l0 l0 (l0.length : Int) x7_1 = some r) ∧ Aside0 (kq ≤ k) ∧ Drawn0 w w')
 case atStart => exact ⟨(0), sR, H', ⟨Nat.le_refl _⟩, by repeat (first | exact Drawn0.refl _ | apply Drawn0.step)⟩
 case round =>
  clear H'
  try clear c1
  obtain ⟨x7_1, rfl, HA, HK1, ⟨m1, rfl⟩⟩ := hrel
  cases gk with
  | zero => exact absurd HA.out (by simp [laws_logSmall.l0])
  | succ k1 =>
   have H := HA.out
   clear HA
   simp only [laws_logSmall.l0] at H
   by_cases c2 : x7_1 < (l0.length : Int)
   ·rw [if_pos c2] at H
    have c2b0 : decide (x7_1 < (l0.length : Int)) = true := decide_eq_true c2
    clear c2
    by_cases c3 : 0 ≤ x7_1
    ·rw [if_pos c3] at H
     have c3b0 : decide (0 ≤ x7_1) = true := decide_eq_true c3
     clear c3
     by_cases c4 : x7_1 < (l0.length : Int)
     ·rw [if_pos c4] at H
      have c4b0 : decide (x7_1 < (l0.length : Int)) = true := decide_eq_true c4
      clear c4
      by_cases c5 : ((rd_L1 l0 x7_1).length : Int) > 5000
      ·rw [if_pos c5] at H
       have c5b0 : decide (5000 < ((rd_L1 l0 x7_1).length : Int)) = true := decide_eq_true c5
       have c5b1 : decide (5000 < (rd_L1 l0 x7_1).length) = true := decide_eq_true (by omega)
       clear c5
       obtain rfl := Option.some.inj H
       have p128 : 0 ≤ (x7_1 : Int) := dA
       have q128 : x7_1 < (l0.length : Int) := dA
       obtain ⟨ad128, A128_0, c128_0, e128, hx128_0, hl128_0, hi128_0⟩ := at_L1 HR0.out x7_1 p128 q128
       cases e128
       have HR128_0 := zM hi128_0
       have HC128_0 := zM hl128_0
       clear hi128_0 hl128_0
       replace p128 := eq_true p128
       replace q128 := eq_true q128
       go_wp2
       go_ret
       exact ⟨by first | rfl | (simp; done) | (simp [*]; done), by repeat (first | exact Drawn0.refl _ | apply Drawn0.step)⟩
      ·rw [if_neg c5] at H
       have c5b0 : decide (5000 < ((rd_L1 l0 x7_1).length : Int)) = false := decide_eq_false c5
       have c5b1 : decide (5000 < (rd_L1 l0 x7_1).length) = false := decide_eq_false (by omega)
       clear c5
       have H' := zM H
       clear H
       have p128 : 0 ≤ (x7_1 : Int) := dA
       have q128 : x7_1 < (l0.length : Int) := dA
       obtain ⟨ad128, A128_0, c128_0, e128, hx128_0, hl128_0, hi128_0⟩ := at_L1 HR0.out x7_1 p128 q128
       cases e128
       have HR128_0 := zM hi128_0
       have HC128_0 := zM hl128_0
       clear hi128_0 hl128_0
       replace p128 := eq_true p128
       replace q128 := eq_true q128
       go_wp2
       go_roundg k1
       case measure => have := HK1.out; omega
       case rel => exact ⟨(wrap64 (x7_1 + 1)), sR, H', ⟨by have := HK1.out; omega⟩, by repeat (first | exact Drawn0.refl _ | apply Drawn0.step)⟩
     ·rw [if_neg c4] at H
      exact absurd H (by simp)
    ·rw [if_neg c3] at H
     exact absurd H (by simp)
   ·rw [if_neg c2] at H
    have c2b0 : decide (x7_1 < (l0.length : Int)) = false := decide_eq_false c2
    clear c2
    obtain rfl := Option.some.inj H
    go_wp2
    go_ret
    exact ⟨by first | rfl | (simp; done) | (simp [*]; done), by repeat (first | exact Drawn0.refl _ | apply Drawn0.step)⟩
theorem cell_of_box {w w7 : World} {v0 v1 : Value} {t : TypeId} (hb : Below (w.alloc (.cells #[v0, v1] t)).heap.size (w.alloc (.cells #[v0, v1] t)) w7) : w7.cell? ⟨w.heap.size, 1, none⟩ = some v1 := by
 have h := hb.cell (p := ⟨w.heap.size, 1, none⟩) (by simp)
 rw [h]
 simp [World.cell?_alloc_new]
theorem impl_verdict.none_ (w : World) :
  Calls Tryd.prog 48 #[.nilIface] w fun e w' => e = .returned (.tuple #[.int .i64 0, .slice none 0 0]) ∧ Below w.heap.size w w' := by
 go_enter Tryd.func48, Tryd.ntmps48
 go_wp2
 go_ret2
 exact ⟨rfl, Below.refl _ _⟩
set_option maxRecDepth 100000 in
theorem impl_verdict.other (p : Option Addr) (w : World) :
  Calls Tryd.prog 48 #[.iface 178 (.pointer p)] w fun e w' => e = .returned (.tuple #[.int .i64 2, .slice none 0 0]) ∧ Below w.heap.size w w' := by
 have ht : ∀ w : World, (Instr.typeAssert (.iface 178 (.pointer p)) 91 142 true).run Tryd.prog w = .ok (.tuple #[.agg #[.slice none 0 0, .slice none 0 0], .bool false]) w := fun _ => by kernel_rfl
 have hu := Tryd.underlying142
 go_enter Tryd.func48, Tryd.ntmps48
 go_wp2
 go_ret2
 exact ⟨rfl, by go_grown⟩
set_option maxRecDepth 100000 in
set_option maxHeartbeats 1000000 in
theorem impl_verdict.mismatch (A0 : Option Addr) (n0 c0 : Nat) (A1 : Option Addr) (c1 : Nat) (l1 : List Int) (w : World) (hr1 : Kd.C (Kd.int .u8) w A1 l1.length l1) (hc1 : l1.length ≤ c1) (hl : l1.length < 140737488355328) :
  Calls Tryd.prog 48 #[.iface 142 (.agg #[.slice A0 n0 c0, .slice A1 l1.length c1])] w fun e w' => ∃ v0_ : Value, e = .returned (.tuple #[.int .i64 1, v0_]) ∧ Kd.R (Kd.int .u8) 5 w' w.heap.size (fun _ => True) v0_ l1 ∧ Below w.heap.size w w' := by
 have ht : ∀ w : World, (Instr.typeAssert (.iface 142 (.agg #[.slice A0 n0 c0, .slice A1 l1.length c1])) 91 142 true).run Tryd.prog w = .ok (.tuple #[.agg #[.slice A0 n0 c0, .slice A1 l1.length c1], .bool true]) w := fun _ => by kernel_rfl
 have hu := Tryd.underlying142
 have HR1 := zM hr1
 have HC1 := zM hc1
 have HL := zM hl
 clear hr1 hc1 hl
 go_enter Tryd.func48, Tryd.ntmps48
 go_wp2_with (first | ((with_reducible refine gate_dst (N := 14) rfl ?_); refine Kd.R_lit (Kd.int .u8) _ 5 ?hg (N := 14) ?hd (xs := ([] : List Int)) (inner := []) (ok := fun _ => True) (okp := fun _ => True) ?hr ?hp (fun _ hk => hk) trivial (Below.refl _ _) (Nat.le_refl _) (by simp) ?_; (case hd => rfl); (case hg => rfl); (case hr => first | (go_simp; done) | (go_simp; rfl)); (case hp => exact (Reps.none _ _)); intro v135 w7 ho8 hb hg_ hnew_; clear hg_ hnew_; have hcell := cell_of_box hb; have HO := zM (Kd.R_lower ho8 (below_size (below_alloc (Below.refl _ _) _))); have HB := zM (below_step (below_alloc (Below.refl _ _) _) hb); clear hb ho8) | ((with_reducible refine gate_builtin (b := .append) (xs := #[.tmp 14, .tmp 16]) rfl ?_); at_builtin; refine Kd.R_append_rows (Kd.int .u8) (w0 := w) w.heap.size rfl (.tmp 14) (.tmp 16) 27 5 (.int .u8 0) 1 rfl Tryd.underlying27 info5 rfl (by decide) (by omega) v135 ([] : List Int) l1 _ _ _ (fun _ => True) (fun _ => False) rfl rfl ?aO ?aR (fun _ _ h => h) (fun _ h => h.elim) ?aF ?aB ?aS ?aL ?_; (case aR => exact Kd.C_below HR1.out HB.out); (case aB => exact HB.out); (case aF => exact (fun _ _ => trivial)); (case aO => exact HO.out); (case aS => exact below_size HB.out); (case aL => have := HL.out; simp only [List.length_nil]; omega); intro v138 w9 ho hb hg hat; have HO2 := zM ho; clear HB; have HB := zM hb; clear ho hb hg hat HO; obtain ⟨Ao11, co11, eo11⟩ := Kd.R_slice HO2.out; subst eo11))
 go_ret2
 exact ⟨_, rfl, HO2.out, HB.out⟩
def impl_verdict.f (k : Nat) (a0_0 : Int) (l0_1 l0_2 l0_3 : List Int) : Option (Int × List Int) := if a0_0 = 0 then some (0, []) else if a0_0 = 1 then (if l0_3.length < 140737488355328 then some (1, l0_3) else none) else if a0_0 = 2 then some (2, []) else none
theorem impl_verdict.calls (k : Nat) (a0_0 : Int) (A0_1 : Option Addr) (c0_1 : Nat) (l0_1 : List Int) (A0_2 : Option Addr) (c0_2 : Nat) (l0_2 : List Int) (A0_3 : Option Addr) (c0_3 : Nat) (l0_3 : List Int) (r1 : Int) (r2 : List Int) (w : World)
  (hr0_1 : Kd.C (Kd.int .u8) w A0_1 l0_1.length l0_1) (hc0_1 : l0_1.length ≤ c0_1) (hr0_2 : Kd.C (Kd.int .u8) w A0_2 l0_2.length l0_2) (hc0_2 : l0_2.length ≤ c0_2) (hr0_3 : Kd.C (Kd.int .u8) w A0_3 l0_3.length l0_3) (hc0_3 : l0_3.length ≤ c0_3) (h : impl_verdict.f k a0_0 l0_1 l0_2 l0_3 = some (r1, r2)) :
  Calls Tryd.prog 48 #[errVc #[.int .i64 a0_0, .slice A0_1 l0_1.length c0_1, .slice A0_2 l0_2.length c0_2, .slice A0_3 l0_3.length c0_3]] w fun e w' => ∃ v0_ : Value, e = .returned (.tuple #[.int .i64 r1, v0_]) ∧ Kd.R (Kd.int .u8) 5 w' w.heap.size (fun _ => True) v0_ r2 ∧ Below w.heap.size w w' := by
 unfold impl_verdict.f at h
 by_cases h0 : a0_0 = 0
 ·rw [if_pos h0] at h
  simp only [Option.some.injEq, Prod.mk.injEq] at h
  obtain ⟨rfl, rfl⟩ := h
  subst h0
  rw [errVc0]
  exact (impl_verdict.none_ w).mono fun e w' ⟨he, hb⟩ => ⟨_, he, Kd.R_nil _ _ _ _ _, hb⟩
 ·rw [if_neg h0] at h
  by_cases h1 : a0_0 = 1
  ·rw [if_pos h1] at h
   by_cases hl : l0_3.length < 140737488355328
   ·rw [if_pos hl] at h
    simp only [Option.some.injEq, Prod.mk.injEq] at h
    obtain ⟨rfl, rfl⟩ := h
    subst h1
    rw [errVc1]
    exact impl_verdict.mismatch _ _ _ _ _ _ w hr0_3 hc0_3 hl
   ·rw [if_neg hl] at h
    cases h
  ·rw [if_neg h1] at h
   by_cases h2 : a0_0 = 2
   ·rw [if_pos h2] at h
    simp only [Option.some.injEq, Prod.mk.injEq] at h
    obtain ⟨rfl, rfl⟩ := h
    subst h2
    rw [errVc2]
    exact (impl_verdict.other _ w).mono fun e w' ⟨he, hb⟩ => ⟨_, he, Kd.R_nil _ _ _ _ _, hb⟩
   ·rw [if_neg h2] at h
    cases h
theorem proof_verifyMatch.same (A0 : Option Addr) (c0 : Nat) (l0 : List Int) (A1 : Option Addr) (c1 : Nat) (l1 : List Int) (w : World) (hr0 : Kd.C (Kd.int .u8) w A0 l0.length l0) (hc0 : l0.length ≤ c0) (hr1 : Kd.C (Kd.int .u8) w A1 l1.length l1) (hc1 : l1.length ≤ c1) (h : bytes_Equal.f l0 l1 = some true) :
  Calls Tryd.prog 81 #[.slice A0 l0.length c0, .slice A1 l1.length c1] w fun e w' => e = .returned .nilIface ∧ Below w.heap.size w w' := by
 have HR0 := zM hr0
 have HC0 := zM hc0
 have HR1 := zM hr1
 have HC1 := zM hc1
 have H := zM h
 clear hr0 hc0 hr1 hc1 h
 go_enter Tryd.func81, Tryd.ntmps81
 go_wp2_with (go_at_call 110; (with_reducible refine (bytes_Equal.calls _ _ l0 _ _ l1 true _ HR0.out HC0.out HR1.out HC1.out H.out).mono ?_); rintro e w' ⟨rfl, ⟨nd, rfl⟩⟩)
 go_ret
 exact ⟨rfl, pw_below_drewN (Below.refl _ _) _⟩
theorem proof_verifyMatch.diff (A0 : Option Addr) (c0 : Nat) (l0 : List Int) (A1 : Option Addr) (c1 : Nat) (l1 : List Int) (w : World) (hr0 : Kd.C (Kd.int .u8) w A0 l0.length l0) (hc0 : l0.length ≤ c0) (hr1 : Kd.C (Kd.int .u8) w A1 l1.length l1) (hc1 : l1.length ≤ c1) (h : bytes_Equal.f l0 l1 = some false) :
  Calls Tryd.prog 81 #[.slice A0 l0.length c0, .slice A1 l1.length c1] w fun e w' => e = .returned (.iface 142 (.agg #[.slice A1 l1.length c1, .slice A0 l0.length c0])) ∧ Below w.heap.size w w' := by
 have HR0 := zM hr0
 have HC0 := zM hc0
 have HR1 := zM hr1
 have HC1 := zM hc1
 have H := zM h
 clear hr0 hc0 hr1 hc1 h
 go_enter Tryd.func81, Tryd.ntmps81
 go_wp2_with (go_at_call 110; (with_reducible refine (bytes_Equal.calls _ _ l0 _ _ l1 false _ HR0.out HC0.out HR1.out HC1.out H.out).mono ?_); rintro e w' ⟨rfl, ⟨nd, rfl⟩⟩)
 go_ret
 exact ⟨rfl, pw_below_drewN (Below.refl _ _) _⟩
def proof_chainInnerRight.l0 : Nat → List Int → Int → List (List Int) → Int → Int → Int → Int → Int → Int → Int → Int → Option (List Int)
 | 0, _, _, _, _, _, _, _, _, _, _, _ => none
 | k + 1, x1, x3, x11, x12, x13, x9001000, x9001001, x9001002, x9001003, x9001004, x9001005 => if x13 < x12 then (if 0 ≤ x13 then (if x13 < (x11.length : Int) then (if 0 ≤ (IntKind.u64.wrap (x13)) then (if (Go.bits .and .u64 (shr .u64 x3 (IntKind.u64.wrap (x13))) 1) = 1 then ((impl_toy_HashChildren.f k x9001000 x9001001 x9001002 x9001003 x9001004 x9001005 (rd_L1 x11 x13) x1).bind fun t386 => (proof_chainInnerRight.l0 k t386 x3 x11 x12 (wrap64 (x13 + 1)) x9001000 x9001001 x9001002 x9001003 x9001004 x9001005)) else (proof_chainInnerRight.l0 k x1 x3 x11 x12 (wrap64 (x13 + 1)) x9001000 x9001001 x9001002 x9001003 x9001004 x9001005)) else (none)) else (none)) else (none)) else (some x1)
def proof_chainInnerRight.f (k : Nat) (a0_0 : Int) (a0_1 : Int) (a0_2 : Int) (a0_3 : Int) (a0_4 : Int) (a0_5 : Int) (l1 : List Int) (l2 : List (List Int)) (a3 : Int) : Option (List Int) := proof_chainInnerRight.l0 k l1 a3 l2 (l2.length : Int) 0 a0_0 a0_1 a0_2 a0_3 a0_4 a0_5
set_option maxHeartbeats 8000000 in
set_option maxRecDepth 100000 in
theorem proof_chainInnerRight.calls (k : Nat) (a0_0 : Int) (a0_1 : Int) (a0_2 : Int) (a0_3 : Int) (a0_4 : Int) (a0_5 : Int) (P1_ : Nat → Prop) (A1 : Option Addr) (c1 : Nat) (l1 : List Int) (A2 : Option Addr) (c2 : Nat) (l2 : List (List Int)) (a3 : Int) (r : List Int) (w : World) (hs1 : Kd.V (Kd.int .u8) 5 w w.heap.size (fun k_ => P1_ k_) (.slice A1 l1.length c1) l1) (hr2 : Kd.C (Kd.slice 5 (Kd.int .u8)) w A2 l2.length l2) (hc2 : l2.length ≤ c2) (h : proof_chainInnerRight.f k a0_0 a0_1 a0_2 a0_3 a0_4 a0_5 l1 l2 a3 = some r) :
  Calls Tryd.prog 84 #[.iface 85 (.agg #[.int .i64 a0_0, .int .i64 a0_1, .int .i64 a0_2, .int .u64 a0_3, .int .u64 a0_4, .int .u64 a0_5]), .slice A1 l1.length c1, .slice A2 l2.length c2, .int .u64 a3] w fun e w' => ∃ v0_ : Value, e = .returned (v0_) ∧ Kd.V (Kd.int .u8) 5 w' w.heap.size (fun k_ => (P1_ k_ ∨ w.heap.size ≤ k_)) v0_ r ∧ Below w.heap.size w w' := by
 have HO1 := zM (show Kd.V (Kd.int .u8) 5 w w.heap.size (fun k_ => (P1_ k_ ∨ w.heap.size ≤ k_)) (.slice A1 l1.length c1) l1 from Kd.V_mono hs1 (fun k_ hk => .inl hk))
 have HR2 := zM hr2
 have HC2 := zM hc2
 clear hr2 hc2
 have HB := zM (Below.refl w.heap.size w)
 have H : (proof_chainInnerRight.l0 k l1 a3 l2 (l2.length : Int) 0 a0_0 a0_1 a0_2 a0_3 a0_4 a0_5) = some r := h
 clear h
 have H' := zM H
 clear H
 go_enter Tryd.func84, Tryd.ntmps84
 go_wp2
 go_loopg [1, 13] k (fun kq v1 v13 w' => ∃ (x1_1 : List Int) (x13_1 : Int), v13 = .int .i64 x13_1 ∧ Aside0 (proof_chainInnerRight.l0 kq x1_1 a3 l2 (l2.length : Int) x13_1 a0_0 a0_1 a0_2 a0_3 a0_4 a0_5 = some r) ∧ Aside0 (kq ≤ k) ∧ Aside0 (Kd.V (Kd.int .u8) 5 w' w.heap.size (fun k_ => (P1_ k_ ∨ w.heap.size ≤ k_)) v1 x1_1) ∧ Aside0 (Below w.heap.size w w'))
 case atStart => exact ⟨(l1), (0), sR, H', ⟨Nat.le_refl _⟩, ⟨kV HO1.out⟩, ⟨bB⟩⟩
 case round =>
  clear H'
  try clear c1
  try clear c2
  try clear p2
  obtain ⟨x1_1, x13_1, rfl, HA, HK1, HO_1, HB⟩ := hrel
  cases gk with
  | zero => exact absurd HA.out (by simp [proof_chainInnerRight.l0])
  | succ k1 =>
   have H := HA.out
   clear HA
   simp only [proof_chainInnerRight.l0] at H
   by_cases c5 : x13_1 < (l2.length : Int)
   ·rw [if_pos c5] at H
    have c5b0 : decide (x13_1 < (l2.length : Int)) = true := decide_eq_true c5
    clear c5
    by_cases c6 : 0 ≤ x13_1
    ·rw [if_pos c6] at H
     have c6b0 : decide (0 ≤ x13_1) = true := decide_eq_true c6
     clear c6
     by_cases c7 : x13_1 < (l2.length : Int)
     ·rw [if_pos c7] at H
      have c7b0 : decide (x13_1 < (l2.length : Int)) = true := decide_eq_true c7
      clear c7
      obtain ⟨ji8, hji8⟩ : ∃ j_ : Int, (IntKind.u64.wrap (x13_1)) = j_ := ⟨_, rfl⟩
      replace H : (if 0 ≤ (ji8) then (if (Go.bits .and .u64 (shr .u64 a3 (ji8)) 1) = 1 then ((impl_toy_HashChildren.f k1 a0_0 a0_1 a0_2 a0_3 a0_4 a0_5 (rd_L1 l2 x13_1) x1_1).bind fun t386 => (proof_chainInnerRight.l0 k1 t386 a3 l2 (l2.length : Int) (wrap64 (x13_1 + 1)) a0_0 a0_1 a0_2 a0_3 a0_4 a0_5)) else (proof_chainInnerRight.l0 k1 x1_1 a3 l2 (l2.length : Int) (wrap64 (x13_1 + 1)) a0_0 a0_1 a0_2 a0_3 a0_4 a0_5)) else (none)) = some r := by first | (rw [hji8] at H; exact H) | (simp only [hji8] at H ⊢; exact H)
      by_cases c9 : 0 ≤ (ji8)
      ·rw [if_pos c9] at H
       have c9b0 := eq_true c9
       have c9b1 : decide (0 ≤ (ji8)) = true := decide_eq_true c9
       clear c9
       obtain ⟨ji10, hji10⟩ : ∃ j_ : Int, (shr .u64 a3 (ji8)) = j_ := ⟨_, rfl⟩
       replace H : (if (Go.bits .and .u64 (ji10) 1) = 1 then ((impl_toy_HashChildren.f k1 a0_0 a0_1 a0_2 a0_3 a0_4 a0_5 (rd_L1 l2 x13_1) x1_1).bind fun t386 => (proof_chainInnerRight.l0 k1 t386 a3 l2 (l2.length : Int) (wrap64 (x13_1 + 1)) a0_0 a0_1 a0_2 a0_3 a0_4 a0_5)) else (proof_chainInnerRight.l0 k1 x1_1 a3 l2 (l2.length : Int) (wrap64 (x13_1 + 1)) a0_0 a0_1 a0_2 a0_3 a0_4 a0_5)) = some r := by first | (rw [hji10] at H; exact H) | (simp only [hji10] at H ⊢; exact H)
       have hji10_ : (a3 / 2 ^ min (ji8).toNat 64) = ji10 := hji10
       have hji10z : (ji8) ≤ 64 → (a3 / 2 ^ (ji8).toNat) = ji10 := shr_small hji10
       by_cases c11 : (Go.bits .and .u64 (ji10) 1) = 1
       ·rw [if_pos c11] at H
        have c11b0 : ((Go.bits .and .u64 (ji10) 1) == 1) = true := beq_iff_eq.mpr c11
        have c11b1 : ((Go.bits .and .u64 (ji10) 1) != 1) = false := bne_eq_false_iff_eq.mpr c11
        clear c11
        replace H := Option.bind_eq_some_iff.mp H
        obtain ⟨t386, A120, H⟩ := H
        (try dsimp only at H)
        have A12 := zM A120
        clear A120
        have H' := zM H
        clear H
        have p385 : 0 ≤ (x13_1 : Int) := dA
        have q385 : x13_1 < (l2.length : Int) := dA
        obtain ⟨ad385, A385_0, c385_0, e385, hx385_0, hl385_0, hi385_0⟩ := at_L1 HR2.out x13_1 p385 q385
        cases e385
        replace hx385_0 := (HB.out.cell (World.block_lt_of_cell? w _ hx385_0)).trans hx385_0
        have HR385_0 := zM hi385_0
        have HC385_0 := zM hl385_0
        clear hi385_0 hl385_0
        replace p385 := eq_true p385
        replace q385 := eq_true q385
        obtain ⟨Ao13, co13, eo13⟩ := Kd.V_slice HO_1.out
        subst eo13
        go_wp2_with (first | ((with_reducible refine gate_invoke (m := "HashChildren") rfl ?_); refine invokesL_ (some 27) rfl rfl Tryd.func52 (by kernel_rfl) rfl 85 (.agg #[.int .i64 a0_0, .int .i64 a0_1, .int .i64 a0_2, .int .u64 a0_3, .int .u64 a0_4, .int .u64 a0_5]) #[.slice A385_0 (rd_L1 l2 x13_1).length c385_0, .slice Ao13 x1_1.length co13] #[.agg #[.int .i64 a0_0, .int .i64 a0_1, .int .i64 a0_2, .int .u64 a0_3, .int .u64 a0_4, .int .u64 a0_5], .slice A385_0 (rd_L1 l2 x13_1).length c385_0, .slice Ao13 x1_1.length co13] rfl rfl (by first | rfl | (simp only [Act.eval]; rfl)) aV (fun _ => by kernel_rfl) ?_; (with_reducible refine (impl_toy_HashChildren.calls k1 a0_0 a0_1 a0_2 a0_3 a0_4 a0_5 _ _ (rd_L1 l2 x13_1) _ _ x1_1 t386 _ ?side1 ?side2 ?side3 ?side4 A12.out).mono ?_); (case side1 => repeat (first | exact (Kd.C_below HR385_0.out HB.out) | (with_reducible refine Kd.C_alloc ?_ _) | (with_reducible refine Kd.C_drewN ?_ _) | (with_reducible refine Kd.C_drew ?_))); (case side2 => exact HC385_0.out); (case side3 => repeat (first | exact (Kd.V_reads' HO_1.out).2.2 | (with_reducible refine Kd.C_alloc ?_ _) | (with_reducible refine Kd.C_drewN ?_ _) | (with_reducible refine Kd.C_drew ?_))); (case side4 => exact (Kd.V_reads' HO_1.out).2.1); rintro e w14 ⟨v387, rfl, ho0, hb⟩; refine ⟨_, rfl, ?_⟩; replace HO_1 := zM (Kd.V_elder' (kV HO_1.out) (Kd.R_base ho0) hb); have HO388 := zM (Kd.R_lower (Kd.R_newM (M := fun k_ => (w.heap.size ≤ k_)) ho0 (below_size bB) (fun k_ h_ => h_)) (below_size bB)); replace HB := zM (below_step bB hb)))
        go_roundg k1
        case measure => have := HK1.out; omega
        case rel => exact ⟨(t386), (wrap64 (x13_1 + 1)), sR, H', ⟨by have := HK1.out; omega⟩, ⟨Kd.V_mono (Kd.R_V (by refine vR ?_; exact Kd.R_mono HO388.out (fun _ hk => hk.1))) (fun k_ hk => by first | exact ⟨(.inr (hk.1)), hk.2⟩ | exact (.inr (hk)))⟩, ⟨bB⟩⟩
       ·rw [if_neg c11] at H
        have c11b0 : ((Go.bits .and .u64 (ji10) 1) == 1) = false := beq_eq_false_iff_ne.mpr c11
        have c11b1 : ((Go.bits .and .u64 (ji10) 1) != 1) = true := bne_iff_ne.mpr c11
        have H' := zM H
        clear H
        have p385 : 0 ≤ (x13_1 : Int) := dA
        have q385 : x13_1 < (l2.length : Int) := dA
        obtain ⟨ad385, A385_0, c385_0, e385, hx385_0, hl385_0, hi385_0⟩ := at_L1 HR2.out x13_1 p385 q385
        cases e385
        replace hx385_0 := (HB.out.cell (World.block_lt_of_cell? w _ hx385_0)).trans hx385_0
        have HR385_0 := zM hi385_0
        have HC385_0 := zM hl385_0
        clear hi385_0 hl385_0
        replace p385 := eq_true p385
        replace q385 := eq_true q385
        go_wp2
        go_roundg k1
        case measure => have := HK1.out; omega
        case rel => exact ⟨(x1_1), (wrap64 (x13_1 + 1)), sR, H', ⟨by have := HK1.out; omega⟩, ⟨kV HO_1.out⟩, ⟨bB⟩⟩
      ·rw [if_neg c9] at H
       exact absurd H (by simp)
     ·rw [if_neg c7] at H
      exact absurd H (by simp)
    ·rw [if_neg c6] at H
     exact absurd H (by simp)
   ·rw [if_neg c5] at H
    have c5b0 : decide (x13_1 < (l2.length : Int)) = false := decide_eq_false c5
    clear c5
    obtain rfl := Option.some.inj H
    go_wp2
    go_ret
    exact ⟨_, by first | rfl | (simp [errW_none, errW_some] <;> rfl) | (simp [*, errW_none, errW_some] <;> rfl), by refine vV ?_; exact HO_1.out, bB⟩
end Go.Proofs.YtkmdkmlgahfcpaaDoor.M
