/- The walk of FnMatrixMultiplies over the printed contracts, a theorem a way. -/
import Derived.Test.YtipbhclpeogcmaaDoorMm1
import Derived.Test.YtipbhclpeogcmaaDoorMm2
namespace Go.Proofs.YtipbhclpeogcmaaDoor.M
open Go.RowKit Go.Proofs.YtipbhclpeogcmaaDoorW.PrintWords Go.Proofs.YtipbhclpeogcmaaDoorW.PrintLast Go.Proofs.YtipbhclpeogcmaaDoorW.PrintMore
set_option linter.unusedVariables false
set_option linter.unusedSimpArgs false
abbrev KB := Kd.slice 5 (Kd.int .u8)
theorem lit2 {w : World} {A0 A1 : Option Addr} {c0 c1 : Nat} {a b : List (List Int)} {t : TypeId} (ha : Kd.C KB w A0 a.length a) (hc0 : a.length ≤ c0) (hb : Kd.C KB w A1 b.length b) (hc1 : b.length ≤ c1) :
    Kd.C (Kd.slice 22 KB) (w.alloc (Obj.cells #[Value.slice A0 a.length c0, Value.slice A1 b.length c1] t)) (some ⟨w.heap.size, 0, none⟩) ([a, b] : List (List (List Int))).length [a, b] := by
  have ha2 := Kd.C_alloc ha (Obj.cells #[Value.slice A0 a.length c0, Value.slice A1 b.length c1] t)
  have hb2 := Kd.C_alloc hb (Obj.cells #[Value.slice A0 a.length c0, Value.slice A1 b.length c1] t)
  refine ⟨rfl, (show 2 ≤ 9223372036854775807 by decide), fun _ => ⟨_, rfl, fun j p hj => ?_⟩⟩
  match j, hj with
  | 0, hj =>
    injection hj with hj
    subst hj
    refine ⟨[.slice A0 a.length c0], rfl, ⟨A0, c0, rfl, hc0, ha2⟩, fun i u hu => ?_⟩
    match i, hu with
    | 0, hu =>
      injection hu with hu
      subst hu
      simp [Addr.add, World.cell?_alloc_new]
  | 1, hj =>
    injection hj with hj
    subst hj
    refine ⟨[.slice A1 b.length c1], rfl, ⟨A1, c1, rfl, hc1, hb2⟩, fun i u hu => ?_⟩
    match i, hu with
    | 0, hu =>
      injection hu with hu
      subst hu
      have e : (Kd.slice 22 KB).sz = 1 := rfl
      simp [Addr.add, e, World.cell?_alloc_new]
set_option maxHeartbeats 8000000 in
set_option maxRecDepth 100000 in
theorem law_fits_a (k : Nat) (A0 : Option Addr) (c0 : Nat) (a : List (List Int)) (A1 : Option Addr) (c1 : Nat) (b p t : List (List Int)) (w : World) (hT : TabOK w)
    (hr0 : Kd.C KB w A0 a.length a) (hc0 : a.length ≤ c0) (hr1 : Kd.C KB w A1 b.length b) (hc1 : b.length ≤ c1)
    (f1 : laws_zzFits2.f k a = some false) :
    Calls Tryd.prog 7 #[.slice A0 a.length c0, .slice A1 b.length c1] w fun e w' => e = .returned (.bool true) ∧ Below w.heap.size w w' := by
  have HT := Aside0.mk hT
  have HA := Aside0.mk hr0
  have HB := Aside0.mk hr1
  have CA := Aside0.mk hc0
  have CB := Aside0.mk hc1
  have F1 := Aside0.mk f1
  clear hT hr0 hr1 hc0 hc1 f1
  go_enter Tryd.func7, Tryd.ntmps7
  go_wp2_with fail
  go_at_call 19
  refine (laws_zzFits2.calls k A0 c0 a false _ (HA.out) CA.out F1.out).mono ?_
  rintro e w1 ⟨rfl, hd⟩
  have B1 := Aside0.mk (hd.below)
  clear hd
  go_wp2
  go_ret
  exact ⟨rfl, B1.out⟩
set_option maxHeartbeats 8000000 in
set_option maxRecDepth 100000 in
theorem law_fits_b (k : Nat) (A0 : Option Addr) (c0 : Nat) (a : List (List Int)) (A1 : Option Addr) (c1 : Nat) (b p t : List (List Int)) (w : World) (hT : TabOK w)
    (hr0 : Kd.C KB w A0 a.length a) (hc0 : a.length ≤ c0) (hr1 : Kd.C KB w A1 b.length b) (hc1 : b.length ≤ c1)
    (f1 : laws_zzFits2.f k a = some true) (f2 : laws_zzFits2.f k b = some false) :
    Calls Tryd.prog 7 #[.slice A0 a.length c0, .slice A1 b.length c1] w fun e w' => e = .returned (.bool true) ∧ Below w.heap.size w w' := by
  have HT := Aside0.mk hT
  have HA := Aside0.mk hr0
  have HB := Aside0.mk hr1
  have CA := Aside0.mk hc0
  have CB := Aside0.mk hc1
  have F1 := Aside0.mk f1
  have F2 := Aside0.mk f2
  clear hT hr0 hr1 hc0 hc1 f1 f2
  go_enter Tryd.func7, Tryd.ntmps7
  go_wp2_with fail
  go_at_call 19
  refine (laws_zzFits2.calls k A0 c0 a true _ (HA.out) CA.out F1.out).mono ?_
  rintro e w1 ⟨rfl, hd⟩
  have B1 := Aside0.mk (hd.below)
  clear hd
  go_wp2_with fail
  go_at_call 19
  refine (laws_zzFits2.calls k A1 c1 b false _ (Kd.C_below HB.out B1.out) CB.out F2.out).mono ?_
  rintro e w2 ⟨rfl, hd⟩
  have B2 := Aside0.mk (below_step B1.out hd.below)
  clear hd B1
  go_wp2
  go_ret
  exact ⟨rfl, B2.out⟩
set_option maxHeartbeats 8000000 in
set_option maxRecDepth 100000 in
theorem law_moderate (k : Nat) (A0 : Option Addr) (c0 : Nat) (a : List (List Int)) (A1 : Option Addr) (c1 : Nat) (b p t : List (List Int)) (w : World) (hT : TabOK w)
    (hr0 : Kd.C KB w A0 a.length a) (hc0 : a.length ≤ c0) (hr1 : Kd.C KB w A1 b.length b) (hc1 : b.length ≤ c1)
    (f1 : laws_zzFits2.f k a = some true) (f2 : laws_zzFits2.f k b = some true) (f3 : laws_moderate.f k [a, b] = some false) :
    Calls Tryd.prog 7 #[.slice A0 a.length c0, .slice A1 b.length c1] w fun e w' => e = .returned (.bool true) ∧ Below w.heap.size w w' := by
  have HT := Aside0.mk hT
  have HA := Aside0.mk hr0
  have HB := Aside0.mk hr1
  have CA := Aside0.mk hc0
  have CB := Aside0.mk hc1
  have F1 := Aside0.mk f1
  have F2 := Aside0.mk f2
  have F3 := Aside0.mk f3
  clear hT hr0 hr1 hc0 hc1 f1 f2 f3
  go_enter Tryd.func7, Tryd.ntmps7
  go_wp2_with fail
  go_at_call 19
  refine (laws_zzFits2.calls k A0 c0 a true _ (HA.out) CA.out F1.out).mono ?_
  rintro e w1 ⟨rfl, hd⟩
  have B1 := Aside0.mk (hd.below)
  clear hd
  go_wp2_with fail
  go_at_call 19
  refine (laws_zzFits2.calls k A1 c1 b true _ (Kd.C_below HB.out B1.out) CB.out F2.out).mono ?_
  rintro e w2 ⟨rfl, hd⟩
  have B2 := Aside0.mk (below_step B1.out hd.below)
  clear hd B1
  go_wp2_with fail
  refine (laws_moderate.calls k _ _ [a, b] false _ (lit2 (Kd.C_below HA.out B2.out) CA.out (Kd.C_below HB.out B2.out) CB.out) (Nat.le_refl _) F3.out).mono ?_
  rintro e w3 ⟨rfl, hd⟩
  have B3 := Aside0.mk (below_step B2.out ((below_alloc (Below.refl _ _) _).trans (hd.below.mono (below_alloc (Below.refl _ _) _).size)))
  clear hd B2
  go_wp2
  go_ret
  exact ⟨rfl, B3.out⟩
set_option maxHeartbeats 8000000 in
set_option maxRecDepth 100000 in
theorem law_rect_a (k : Nat) (A0 : Option Addr) (c0 : Nat) (a : List (List Int)) (A1 : Option Addr) (c1 : Nat) (b p t : List (List Int)) (w : World) (hT : TabOK w)
    (hr0 : Kd.C KB w A0 a.length a) (hc0 : a.length ≤ c0) (hr1 : Kd.C KB w A1 b.length b) (hc1 : b.length ≤ c1)
    (f1 : laws_zzFits2.f k a = some true) (f2 : laws_zzFits2.f k b = some true) (f3 : laws_moderate.f k [a, b] = some true) (f4 : impl_Multiply.f k a b = some (p, false)) (f5 : spec_Rectangular.f k a = some false) :
    Calls Tryd.prog 7 #[.slice A0 a.length c0, .slice A1 b.length c1] w fun e w' => e = .returned (.bool true) ∧ Below w.heap.size w w' := by
  have HT := Aside0.mk hT
  have HA := Aside0.mk hr0
  have HB := Aside0.mk hr1
  have CA := Aside0.mk hc0
  have CB := Aside0.mk hc1
  have F1 := Aside0.mk f1
  have F2 := Aside0.mk f2
  have F3 := Aside0.mk f3
  have F4 := Aside0.mk f4
  have F5 := Aside0.mk f5
  clear hT hr0 hr1 hc0 hc1 f1 f2 f3 f4 f5
  go_enter Tryd.func7, Tryd.ntmps7
  go_wp2_with fail
  go_at_call 19
  refine (laws_zzFits2.calls k A0 c0 a true _ (HA.out) CA.out F1.out).mono ?_
  rintro e w1 ⟨rfl, hd⟩
  have B1 := Aside0.mk (hd.below)
  clear hd
  go_wp2_with fail
  go_at_call 19
  refine (laws_zzFits2.calls k A1 c1 b true _ (Kd.C_below HB.out B1.out) CB.out F2.out).mono ?_
  rintro e w2 ⟨rfl, hd⟩
  have B2 := Aside0.mk (below_step B1.out hd.below)
  clear hd B1
  go_wp2_with fail
  refine (laws_moderate.calls k _ _ [a, b] true _ (lit2 (Kd.C_below HA.out B2.out) CA.out (Kd.C_below HB.out B2.out) CB.out) (Nat.le_refl _) F3.out).mono ?_
  rintro e w3 ⟨rfl, hd⟩
  have B3 := Aside0.mk (below_step B2.out ((below_alloc (Below.refl _ _) _).trans (hd.below.mono (below_alloc (Below.refl _ _) _).size)))
  clear hd B2
  go_wp2_with fail
  go_at_call 21
  refine (impl_Multiply.calls k _ c0 a _ c1 b p false _ (TabOK.below HT.out B3.out) (Kd.C_below HA.out B3.out) CA.out (Kd.C_below HB.out B3.out) CB.out F4.out).mono ?_
  rintro e w4 ⟨v, rfl, hS, hb⟩
  obtain ⟨Ap, cp, rfl, hcp, hCp⟩ := Kd.S_reads hS
  have HP4 := Aside0.mk hCp
  have CP := Aside0.mk hcp
  have B4 := Aside0.mk (below_step B3.out hb)
  clear hS hb hcp hCp B3
  go_wp2_with fail
  go_at_call 22
  refine (spec_Rectangular.calls k _ c0 a false _ (Kd.C_below HA.out B4.out) CA.out F5.out).mono ?_
  rintro e w5 ⟨rfl, hd⟩
  have B5 := Aside0.mk (below_step B4.out hd.below)
  have HP5 := Aside0.mk (Kd.C_below HP4.out hd.below)
  clear hd HP4 B4
  go_wp2
  go_ret
  exact ⟨rfl, B5.out⟩
set_option maxHeartbeats 8000000 in
set_option maxRecDepth 100000 in
theorem law_rect_b (k : Nat) (A0 : Option Addr) (c0 : Nat) (a : List (List Int)) (A1 : Option Addr) (c1 : Nat) (b p t : List (List Int)) (w : World) (hT : TabOK w)
    (hr0 : Kd.C KB w A0 a.length a) (hc0 : a.length ≤ c0) (hr1 : Kd.C KB w A1 b.length b) (hc1 : b.length ≤ c1)
    (f1 : laws_zzFits2.f k a = some true) (f2 : laws_zzFits2.f k b = some true) (f3 : laws_moderate.f k [a, b] = some true) (f4 : impl_Multiply.f k a b = some (p, false)) (f5 : spec_Rectangular.f k a = some true) (f6 : spec_Rectangular.f k b = some false) :
    Calls Tryd.prog 7 #[.slice A0 a.length c0, .slice A1 b.length c1] w fun e w' => e = .returned (.bool true) ∧ Below w.heap.size w w' := by
  have HT := Aside0.mk hT
  have HA := Aside0.mk hr0
  have HB := Aside0.mk hr1
  have CA := Aside0.mk hc0
  have CB := Aside0.mk hc1
  have F1 := Aside0.mk f1
  have F2 := Aside0.mk f2
  have F3 := Aside0.mk f3
  have F4 := Aside0.mk f4
  have F5 := Aside0.mk f5
  have F6 := Aside0.mk f6
  clear hT hr0 hr1 hc0 hc1 f1 f2 f3 f4 f5 f6
  go_enter Tryd.func7, Tryd.ntmps7
  go_wp2_with fail
  go_at_call 19
  refine (laws_zzFits2.calls k A0 c0 a true _ (HA.out) CA.out F1.out).mono ?_
  rintro e w1 ⟨rfl, hd⟩
  have B1 := Aside0.mk (hd.below)
  clear hd
  go_wp2_with fail
  go_at_call 19
  refine (laws_zzFits2.calls k A1 c1 b true _ (Kd.C_below HB.out B1.out) CB.out F2.out).mono ?_
  rintro e w2 ⟨rfl, hd⟩
  have B2 := Aside0.mk (below_step B1.out hd.below)
  clear hd B1
  go_wp2_with fail
  refine (laws_moderate.calls k _ _ [a, b] true _ (lit2 (Kd.C_below HA.out B2.out) CA.out (Kd.C_below HB.out B2.out) CB.out) (Nat.le_refl _) F3.out).mono ?_
  rintro e w3 ⟨rfl, hd⟩
  have B3 := Aside0.mk (below_step B2.out ((below_alloc (Below.refl _ _) _).trans (hd.below.mono (below_alloc (Below.refl _ _) _).size)))
  clear hd B2
  go_wp2_with fail
  go_at_call 21
  refine (impl_Multiply.calls k _ c0 a _ c1 b p false _ (TabOK.below HT.out B3.out) (Kd.C_below HA.out B3.out) CA.out (Kd.C_below HB.out B3.out) CB.out F4.out).mono ?_
  rintro e w4 ⟨v, rfl, hS, hb⟩
  obtain ⟨Ap, cp, rfl, hcp, hCp⟩ := Kd.S_reads hS
  have HP4 := Aside0.mk hCp
  have CP := Aside0.mk hcp
  have B4 := Aside0.mk (below_step B3.out hb)
  clear hS hb hcp hCp B3
  go_wp2_with fail
  go_at_call 22
  refine (spec_Rectangular.calls k _ c0 a true _ (Kd.C_below HA.out B4.out) CA.out F5.out).mono ?_
  rintro e w5 ⟨rfl, hd⟩
  have B5 := Aside0.mk (below_step B4.out hd.below)
  have HP5 := Aside0.mk (Kd.C_below HP4.out hd.below)
  clear hd HP4 B4
  go_wp2_with fail
  go_at_call 22
  refine (spec_Rectangular.calls k _ c1 b false _ (Kd.C_below HB.out B5.out) CB.out F6.out).mono ?_
  rintro e w6 ⟨rfl, hd⟩
  have B6 := Aside0.mk (below_step B5.out hd.below)
  have HP6 := Aside0.mk (Kd.C_below HP5.out hd.below)
  clear hd HP5 B5
  go_wp2
  go_ret
  exact ⟨rfl, B6.out⟩
set_option maxHeartbeats 8000000 in
set_option maxRecDepth 100000 in
theorem law_cols (k : Nat) (A0 : Option Addr) (c0 : Nat) (a : List (List Int)) (A1 : Option Addr) (c1 : Nat) (b p t : List (List Int)) (w : World) (hT : TabOK w)
    (hr0 : Kd.C KB w A0 a.length a) (hc0 : a.length ≤ c0) (hr1 : Kd.C KB w A1 b.length b) (hc1 : b.length ≤ c1) (q : Nat) (hq : (q == b.length) = false)
    (f1 : laws_zzFits2.f k a = some true) (f2 : laws_zzFits2.f k b = some true) (f3 : laws_moderate.f k [a, b] = some true) (f4 : impl_Multiply.f k a b = some (p, false)) (f5 : spec_Rectangular.f k a = some true) (f6 : spec_Rectangular.f k b = some true) (f7 : spec_Columns.f a = some (q : Int)) :
    Calls Tryd.prog 7 #[.slice A0 a.length c0, .slice A1 b.length c1] w fun e w' => e = .returned (.bool true) ∧ Below w.heap.size w w' := by
  have HT := Aside0.mk hT
  have HA := Aside0.mk hr0
  have HB := Aside0.mk hr1
  have CA := Aside0.mk hc0
  have CB := Aside0.mk hc1
  have F1 := Aside0.mk f1
  have F2 := Aside0.mk f2
  have F3 := Aside0.mk f3
  have F4 := Aside0.mk f4
  have F5 := Aside0.mk f5
  have F6 := Aside0.mk f6
  have F7 := Aside0.mk f7
  clear hT hr0 hr1 hc0 hc1 f1 f2 f3 f4 f5 f6 f7
  go_enter Tryd.func7, Tryd.ntmps7
  go_wp2_with fail
  go_at_call 19
  refine (laws_zzFits2.calls k A0 c0 a true _ (HA.out) CA.out F1.out).mono ?_
  rintro e w1 ⟨rfl, hd⟩
  have B1 := Aside0.mk (hd.below)
  clear hd
  go_wp2_with fail
  go_at_call 19
  refine (laws_zzFits2.calls k A1 c1 b true _ (Kd.C_below HB.out B1.out) CB.out F2.out).mono ?_
  rintro e w2 ⟨rfl, hd⟩
  have B2 := Aside0.mk (below_step B1.out hd.below)
  clear hd B1
  go_wp2_with fail
  refine (laws_moderate.calls k _ _ [a, b] true _ (lit2 (Kd.C_below HA.out B2.out) CA.out (Kd.C_below HB.out B2.out) CB.out) (Nat.le_refl _) F3.out).mono ?_
  rintro e w3 ⟨rfl, hd⟩
  have B3 := Aside0.mk (below_step B2.out ((below_alloc (Below.refl _ _) _).trans (hd.below.mono (below_alloc (Below.refl _ _) _).size)))
  clear hd B2
  go_wp2_with fail
  go_at_call 21
  refine (impl_Multiply.calls k _ c0 a _ c1 b p false _ (TabOK.below HT.out B3.out) (Kd.C_below HA.out B3.out) CA.out (Kd.C_below HB.out B3.out) CB.out F4.out).mono ?_
  rintro e w4 ⟨v, rfl, hS, hb⟩
  obtain ⟨Ap, cp, rfl, hcp, hCp⟩ := Kd.S_reads hS
  have HP4 := Aside0.mk hCp
  have CP := Aside0.mk hcp
  have B4 := Aside0.mk (below_step B3.out hb)
  clear hS hb hcp hCp B3
  go_wp2_with fail
  go_at_call 22
  refine (spec_Rectangular.calls k _ c0 a true _ (Kd.C_below HA.out B4.out) CA.out F5.out).mono ?_
  rintro e w5 ⟨rfl, hd⟩
  have B5 := Aside0.mk (below_step B4.out hd.below)
  have HP5 := Aside0.mk (Kd.C_below HP4.out hd.below)
  clear hd HP4 B4
  go_wp2_with fail
  go_at_call 22
  refine (spec_Rectangular.calls k _ c1 b true _ (Kd.C_below HB.out B5.out) CB.out F6.out).mono ?_
  rintro e w6 ⟨rfl, hd⟩
  have B6 := Aside0.mk (below_step B5.out hd.below)
  have HP6 := Aside0.mk (Kd.C_below HP5.out hd.below)
  clear hd HP5 B5
  go_wp2_with fail
  go_at_call 23
  refine (spec_Columns.calls _ c0 a q _ (Kd.C_below HA.out B6.out) CA.out F7.out).mono ?_
  rintro e w7 ⟨rfl, hd⟩
  have B7 := Aside0.mk (below_step B6.out hd.below)
  have HP7 := Aside0.mk (Kd.C_below HP6.out hd.below)
  clear hd HP6 B6
  go_wp2
  go_ret
  exact ⟨rfl, B7.out⟩
set_option maxHeartbeats 8000000 in
set_option maxRecDepth 100000 in
theorem law_good (k : Nat) (A0 : Option Addr) (c0 : Nat) (a : List (List Int)) (A1 : Option Addr) (c1 : Nat) (b p t : List (List Int)) (w : World) (hT : TabOK w)
    (hr0 : Kd.C KB w A0 a.length a) (hc0 : a.length ≤ c0) (hr1 : Kd.C KB w A1 b.length b) (hc1 : b.length ≤ c1)
    (f1 : laws_zzFits2.f k a = some true) (f2 : laws_zzFits2.f k b = some true) (f3 : laws_moderate.f k [a, b] = some true) (f4 : impl_Multiply.f k a b = some (p, true)) (f5 : spec_Rectangular.f k a = some true) (f6 : spec_Rectangular.f k b = some true) (f7 : spec_Columns.f a = some (b.length : Int)) (f8 : spec_Times.f k a b = some t) (f9 : spec_EqualMatrices.f k p t = some true) :
    Calls Tryd.prog 7 #[.slice A0 a.length c0, .slice A1 b.length c1] w fun e w' => e = .returned (.bool true) ∧ Below w.heap.size w w' := by
  have HT := Aside0.mk hT
  have HA := Aside0.mk hr0
  have HB := Aside0.mk hr1
  have CA := Aside0.mk hc0
  have CB := Aside0.mk hc1
  have F1 := Aside0.mk f1
  have F2 := Aside0.mk f2
  have F3 := Aside0.mk f3
  have F4 := Aside0.mk f4
  have F5 := Aside0.mk f5
  have F6 := Aside0.mk f6
  have F7 := Aside0.mk f7
  have F8 := Aside0.mk f8
  have F9 := Aside0.mk f9
  clear hT hr0 hr1 hc0 hc1 f1 f2 f3 f4 f5 f6 f7 f8 f9
  go_enter Tryd.func7, Tryd.ntmps7
  go_wp2_with fail
  go_at_call 19
  refine (laws_zzFits2.calls k A0 c0 a true _ (HA.out) CA.out F1.out).mono ?_
  rintro e w1 ⟨rfl, hd⟩
  have B1 := Aside0.mk (hd.below)
  clear hd
  go_wp2_with fail
  go_at_call 19
  refine (laws_zzFits2.calls k A1 c1 b true _ (Kd.C_below HB.out B1.out) CB.out F2.out).mono ?_
  rintro e w2 ⟨rfl, hd⟩
  have B2 := Aside0.mk (below_step B1.out hd.below)
  clear hd B1
  go_wp2_with fail
  refine (laws_moderate.calls k _ _ [a, b] true _ (lit2 (Kd.C_below HA.out B2.out) CA.out (Kd.C_below HB.out B2.out) CB.out) (Nat.le_refl _) F3.out).mono ?_
  rintro e w3 ⟨rfl, hd⟩
  have B3 := Aside0.mk (below_step B2.out ((below_alloc (Below.refl _ _) _).trans (hd.below.mono (below_alloc (Below.refl _ _) _).size)))
  clear hd B2
  go_wp2_with fail
  go_at_call 21
  refine (impl_Multiply.calls k _ c0 a _ c1 b p true _ (TabOK.below HT.out B3.out) (Kd.C_below HA.out B3.out) CA.out (Kd.C_below HB.out B3.out) CB.out F4.out).mono ?_
  rintro e w4 ⟨v, rfl, hS, hb⟩
  obtain ⟨Ap, cp, rfl, hcp, hCp⟩ := Kd.S_reads hS
  have HP4 := Aside0.mk hCp
  have CP := Aside0.mk hcp
  have B4 := Aside0.mk (below_step B3.out hb)
  clear hS hb hcp hCp B3
  go_wp2_with fail
  go_at_call 22
  refine (spec_Rectangular.calls k _ c0 a true _ (Kd.C_below HA.out B4.out) CA.out F5.out).mono ?_
  rintro e w5 ⟨rfl, hd⟩
  have B5 := Aside0.mk (below_step B4.out hd.below)
  have HP5 := Aside0.mk (Kd.C_below HP4.out hd.below)
  clear hd HP4 B4
  go_wp2_with fail
  go_at_call 22
  refine (spec_Rectangular.calls k _ c1 b true _ (Kd.C_below HB.out B5.out) CB.out F6.out).mono ?_
  rintro e w6 ⟨rfl, hd⟩
  have B6 := Aside0.mk (below_step B5.out hd.below)
  have HP6 := Aside0.mk (Kd.C_below HP5.out hd.below)
  clear hd HP5 B5
  go_wp2_with fail
  go_at_call 23
  refine (spec_Columns.calls _ c0 a _ _ (Kd.C_below HA.out B6.out) CA.out F7.out).mono ?_
  rintro e w7 ⟨rfl, hd⟩
  have B7 := Aside0.mk (below_step B6.out hd.below)
  have HP7 := Aside0.mk (Kd.C_below HP6.out hd.below)
  clear hd HP6 B6
  go_wp2_with fail
  go_at_call 24
  refine (spec_Times.calls k _ c0 a _ c1 b t _ (Kd.C_below HA.out B7.out) CA.out (Kd.C_below HB.out B7.out) CB.out F8.out).mono ?_
  rintro e w8 ⟨v, rfl, hS, hb⟩
  obtain ⟨At, ct, rfl, hct, hCt⟩ := Kd.S_reads hS
  have HTm := Aside0.mk hCt
  have CT := Aside0.mk hct
  have B8 := Aside0.mk (below_step B7.out hb)
  have HP8 := Aside0.mk (Kd.C_below HP7.out hb)
  clear hS hb hct hCt HP7 B7
  go_wp2_with fail
  go_at_call 17
  refine (spec_EqualMatrices.calls k _ cp p _ ct t true _ HP8.out CP.out HTm.out CT.out F9.out).mono ?_
  rintro e w9 ⟨rfl, hd⟩
  have B9 := Aside0.mk (below_step B8.out hd.below)
  clear hd HP8 B8
  go_wp2
  go_ret
  exact ⟨rfl, B9.out⟩
end Go.Proofs.YtipbhclpeogcmaaDoor.M
