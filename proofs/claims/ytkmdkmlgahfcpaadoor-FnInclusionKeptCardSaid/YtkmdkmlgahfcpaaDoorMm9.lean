import Derived.Test.YtkmdkmlgahfcpaaDoorSr
import Derived.Test.YtkmdkmlgahfcpaaDoorMm1
import Derived.Test.YtkmdkmlgahfcpaaDoorMm8
import Derived.Test.YtkmdkmlgahfcpaaDoorMm3
import Derived.Test.YtkmdkmlgahfcpaaDoorMm7
namespace Go.Proofs.YtkmdkmlgahfcpaaDoor.M
open Go.RowKit Go.Proofs.YtkmdkmlgahfcpaaDoorW.PrintWords Go.Proofs.YtkmdkmlgahfcpaaDoorW.PrintLast Go.Proofs.YtkmdkmlgahfcpaaDoorW.PrintMore
attribute [local go_sem] max2_int min2_int max_two min_two max_three min_three max_four min_four
set_option linter.unusedVariables false
set_option linter.unusedSimpArgs false
attribute [local go_sem high] eqA54
mutual
def laws_growthHashes.l0 : Nat → List (S54) → List (S39) → List (S60) → Int → Int → Option ((List (List Int)) × Bool)
 | 0, _, _, _, _, _ => none
 | k + 1, x0, x1, x6, x16, x17 => if x17 < x16 then (if 0 ≤ x17 then (if x17 < (x1.length : Int) then ((spec_Named.f k ((rd_T39 x1 x17).f0) ((rd_T39 x1 x17).f1) ((rd_T39 x1 x17).f2)).bind fun t366 => (if x6.length + t366.length < 3518437208883 then (laws_growthHashes.l0 k x0 x1 (x6 ++ t366) x16 (wrap64 (x17 + 1))) else (none))) else (none)) else (none)) else (laws_growthHashes.l1 k x6 ([] : List (List Int)) x0 (x0.length : Int) 0)
def laws_growthHashes.l1 : Nat → List (S60) → List (List Int) → List (S54) → Int → Int → Option ((List (List Int)) × Bool)
 | 0, _, _, _, _, _ => none
 | k + 1, x6, x9, x26, x27, x28 => if x28 < x27 then (if 0 ≤ x28 then (if x28 < (x26.length : Int) then (laws_growthHashes.l2 k x6 x9 false x26 x27 x28 (x6.length : Int) 0 ((rd_T54 x26 x28).f0) ((rd_T54 x26 x28).f1)) else (none)) else (none)) else (some (x9, true))
def laws_growthHashes.l2 : Nat → List (S60) → List (List Int) → Bool → List (S54) → Int → Int → Int → Int → Int → Int → Option ((List (List Int)) × Bool)
 | 0, _, _, _, _, _, _, _, _, _, _ => none
 | k + 1, x6, x9, x12, x26, x27, x28, x33, x34, x374000, x374001 => if x34 < x33 then (if 0 ≤ x34 then (if x34 < (x6.length : Int) then (if (((rd_T60 x6 x34).f0.f0) == x374000 && (((rd_T60 x6 x34).f0.f1) == x374001)) = true then (if x12 = true then (laws_growthHashes.l2 k x6 x9 x12 x26 x27 x28 x33 (wrap64 (x34 + 1)) x374000 x374001) else ((some (([] : List Int) : List Int)).bind fun y376 => (if y376.length + ((rd_T60 x6 x34).f1).length < 140737488355328 then (if x9.length < 5864062014805 then (laws_growthHashes.l2 k x6 (x9 ++ [(y376 ++ ((rd_T60 x6 x34).f1))]) true x26 x27 x28 x33 (wrap64 (x34 + 1)) x374000 x374001) else (none)) else (none)))) else (laws_growthHashes.l2 k x6 x9 x12 x26 x27 x28 x33 (wrap64 (x34 + 1)) x374000 x374001)) else (none)) else (none)) else (if x12 = true then (laws_growthHashes.l1 k x6 x9 x26 x27 (wrap64 (x28 + 1))) else (some (([] : List (List Int)), false)))
end
def laws_growthHashes.f (k : Nat) (l0 : List (S54)) (l1 : List (S39)) : Option ((List (List Int)) × Bool) := laws_growthHashes.l0 k l0 l1 ([] : List (S60)) (l1.length : Int) 0
set_option maxHeartbeats 8000000 in
set_option maxRecDepth 100000 in
theorem laws_growthHashes.calls (k : Nat) (A0 : Option Addr) (c0 : Nat) (l0 : List (S54)) (P1_ : Nat → Prop) (A1 : Option Addr) (c1 : Nat) (l1 : List (S39)) (r1 : List (List Int)) (r2 : Bool) (w : World) (hr0 : Kd.C k54 w A0 l0.length l0) (hc0 : l0.length ≤ c0) (hs1 : Kd.V k39 39 w w.heap.size (fun k_ => P1_ k_) (.slice A1 l1.length c1) l1) (h : laws_growthHashes.f k l0 l1 = some (r1, r2)) :
  Calls Tryd.prog 75 #[.slice A0 l0.length c0, .slice A1 l1.length c1] w fun e w' => ∃ v0_ : Value, e = .returned (.tuple #[v0_, .bool r2]) ∧ Kd.N (Kd.slice 5 (Kd.int .u8)) 27 w' w.heap.size (fun k_ => (P1_ k_ ∨ w.heap.size ≤ k_)) v0_ r1 ∧ Below w.heap.size w w' := by
 have hu39 := Tryd.underlying39
 have hu54 := Tryd.underlying54
 have hu60 := Tryd.underlying60
 have HR0 := zM hr0
 have HC0 := zM hc0
 clear hr0 hc0
 have HO1 := zM (show Kd.V k39 39 w w.heap.size (fun k_ => (P1_ k_ ∨ w.heap.size ≤ k_)) (.slice A1 l1.length c1) l1 from Kd.V_mono hs1 (fun k_ hk => .inl hk))
 have HB := zM (Below.refl w.heap.size w)
 have H : (laws_growthHashes.l0 k l0 l1 ([] : List (S60)) (l1.length : Int) 0) = some (r1, r2) := h
 clear h
 have H' := zM H
 clear H
 go_enter Tryd.func75, Tryd.ntmps75
 go_wp2
 go_loopg [6, 17] k (fun kq v6 v17 w' => ∃ (x6_1 : List (S60)) (x17_1 : Int), v17 = .int .i64 x17_1 ∧ Aside0 (laws_growthHashes.l0 kq l0 l1 x6_1 (l1.length : Int) x17_1 = some (r1, r2)) ∧ Aside0 (kq ≤ k) ∧ Aside0 (Kd.V k39 39 w' w.heap.size (fun k_ => (P1_ k_ ∨ w.heap.size ≤ k_) ∧ some k_ ≠ (v6 : Value).ownBlock) (.slice A1 l1.length c1) l1) ∧ Aside0 (Kd.N k60 60 w' w.heap.size (fun k_ => (P1_ k_ ∨ w.heap.size ≤ k_)) v6 x6_1) ∧ Aside0 (Below w.heap.size w w'))
 case atStart => exact ⟨(([] : List (S60))), (0), sR, H', ⟨Nat.le_refl _⟩, ⟨by refine vV ?_; exact Kd.V_mono HO1.out (fun _ hk => ⟨hk, (by simp [Value.ownBlock])⟩)⟩, ⟨by first | exact Kd.S_nil _ _ _ _ _ | exact Kd.N_nil _ _ _ _ _ | exact Kd.V_nil _ _ _ _ _ | exact Kd.Q_nil _ _ _ _ _ | exact Kd.R_nil _ _ _ _ _⟩, ⟨bB⟩⟩
 case round =>
  clear H'
  try clear c1
  try clear p2
  obtain ⟨x6_1, x17_1, rfl, HA, HK1, HO_1, HO_6, HB⟩ := hrel
  cases gk with
  | zero => exact absurd HA.out (by simp [laws_growthHashes.l0])
  | succ k1 =>
   have H := HA.out
   clear HA
   simp only [laws_growthHashes.l0] at H
   by_cases c3 : x17_1 < (l1.length : Int)
   ·rw [if_pos c3] at H
    have c3b0 : decide (x17_1 < (l1.length : Int)) = true := decide_eq_true c3
    clear c3
    by_cases c4 : 0 ≤ x17_1
    ·rw [if_pos c4] at H
     have c4b0 : decide (0 ≤ x17_1) = true := decide_eq_true c4
     clear c4
     by_cases c5 : x17_1 < (l1.length : Int)
     ·rw [if_pos c5] at H
      have c5b0 : decide (x17_1 < (l1.length : Int)) = true := decide_eq_true c5
      clear c5
      replace H := Option.bind_eq_some_iff.mp H
      obtain ⟨t366, A60, H⟩ := H
      (try dsimp only at H)
      have A6 := zM A60
      clear A60
      by_cases c7 : x6_1.length + t366.length < 3518437208883
      ·rw [if_pos c7] at H
       have LMc7 := zM c7
       clear c7
       obtain ⟨y369, hy369⟩ : ∃ y_ : List (S60), y_ = (x6_1 ++ t366) := ⟨_, rfl⟩
       replace H : (laws_growthHashes.l0 k1 l0 l1 y369 (l1.length : Int) (wrap64 (x17_1 + 1))) = some (r1, r2) := by first | (rw [hy369]; with_reducible exact H) | (have H := (Option.bind_some _ _).symm.trans H; first | (rw [hy369]; with_reducible exact H) | with_reducible exact H) | (rw [hy369]; exact H) | exact H
       have Ny369 := zM hy369
       clear hy369
       have H' := zM H
       clear H
       have p364 : 0 ≤ (x17_1 : Int) := dA
       have q364 : x17_1 < (l1.length : Int) := dA
       obtain ⟨ad364, A364_2, c364_2, e364, hx364_0, hx364_1, hx364_2, hl364_2, hi364_2⟩ := at_T39 (Kd.V_reads' HO_1.out).2.2 x17_1 p364 q364
       cases e364
       obtain ⟨ce364, hce364, hMe364, hcc364⟩ := Kd.V_get HO_1.out z39 x17_1 p364 (by first | exact q364 | exact dA | (have e_ := (Kd.V_reads' HO_1.out).1; omega))
       obtain ⟨ua364_2, uc364_2, rfl, ul364_2, ge364_2⟩ := k39_openF hMe364
       have hv364_2 := hcc364 2 _ rfl
       rw [add_field _ _ 2 (by omega)] at hv364_2
       replace hv364_2 := Option.some.inj (hv364_2.symm.trans hx364_2)
       injection hv364_2 with hva_ hvn_ hvc_
       rw [hva_] at ge364_2
       rw [hvc_] at ul364_2
       have HL364_2 := zM (show Kd.V (Kd.slice 5 (Kd.int .u8)) 27 _ w.heap.size _ _ ((rd_T39 l1 x17_1).f2) from Kd.V_mk ul364_2 ge364_2)
       clear hva_ hvn_ hvc_ ge364_2 ul364_2
       clear hcc364 hce364
       have HR364_2 := zM hi364_2
       have HC364_2 := zM hl364_2
       clear hi364_2 hl364_2
       replace p364 := eq_true p364
       replace q364 := eq_true q364
       go_wp2_with (first | ((with_reducible refine gate_dst (N := 8) rfl ?_); refine bx 8 #[.int .u64 0, .int .u64 0, .slice none 0 0] 39 ?_; intro gb365 hg w8 hbox hb; replace HO_1 := zM (Kd.V_below (Kd.V_elderB (kV HO_1.out) gb365 (Nat.le_of_eq hg.symm)) hb); replace HO_6 := zM (Kd.N_below (Kd.N_elderB (by refine vN ?_; exact HO_6.out) gb365 (Nat.le_of_eq hg.symm)) hb); replace HL364_2 := zM (Kd.V_below (Kd.V_elderB (kV HL364_2.out) gb365 (Nat.le_of_eq hg.symm)) hb); replace HR364_2 := zM True.intro; have BK365 := zM (hbox); have GW365 := zM ((gB hg : w.heap.size ≤ gb365)); have GE365 := zM ((gB hg : w.heap.size ≤ gb365)); replace HB := zM (below_step bB hb); clear hb hbox hg; obtain ⟨hcz9_0, hcz9_1, hcz9_2⟩ := h3 BK365; obtain ⟨hfz9_0, hfz9_1, hfz9_2⟩ := f3 BK365) | ((with_reducible refine gate_store (t := 39) (p := 8) rfl ?_); refine store_event (t := 39) (p := 8) (v := ?vo_w10) (w1 := (((w8.setCell ⟨gb365, 0, none⟩ (.int .u64 ((rd_T39 l1 x17_1).f0))).setCell ⟨gb365, 1, none⟩ (.int .u64 ((rd_T39 l1 x17_1).f1))).setCell ⟨gb365, 2, none⟩ (.slice A364_2 ((rd_T39 l1 x17_1).f2).length c364_2))) ?hg ?ho ?hn ?hr ?_; (case ho => rfl); (case hg => rfl); (case hn => rfl); (case hr => first | (go_simp; done) | (go_simp; rfl)); intro w10 hw; have n0_ : Aside0 (Kd.V k39 39 w10 w.heap.size (fun k_ => (P1_ k_ ∨ w.heap.size ≤ k_) ∧ some k_ ≠ (u6 : Value).ownBlock ∧ k_ ≠ gb365) (.slice (some ad364) l1.length c1) l1) := ⟨(by rw [hw]; exact (by refine vV ?_; exact Kd.V_mono (Kd.V_far (p := ⟨gb365, 2, none⟩) (Kd.V_far (p := ⟨gb365, 1, none⟩) (Kd.V_far (p := ⟨gb365, 0, none⟩) (Kd.V_mono HO_1.out (fun k_ hk => (⟨hk, hk.2⟩ : _ ∧ k_ ≠ gb365))) (fun _ hk => hk.2) (.int .u64 ((rd_T39 l1 x17_1).f0))) (fun _ hk => hk.2) (.int .u64 ((rd_T39 l1 x17_1).f1))) (fun _ hk => hk.2) (.slice A364_2 ((rd_T39 l1 x17_1).f2).length c364_2)) (fun _ hk => ⟨hk.1.1.1, ⟨hk.1.1.2, hk.1.2⟩⟩)))⟩; have n1_ : Aside0 (Kd.N k60 60 w10 w.heap.size (fun k_ => (P1_ k_ ∨ w.heap.size ≤ k_) ∧ k_ ≠ gb365) u6 x6_1) := ⟨(by rw [hw]; exact (by refine vN ?_; exact Kd.N_mono (Kd.N_far (p := ⟨gb365, 2, none⟩) (Kd.N_far (p := ⟨gb365, 1, none⟩) (Kd.N_far (p := ⟨gb365, 0, none⟩) (Kd.N_mono HO_6.out (fun k_ hk => (⟨hk, hk.2⟩ : _ ∧ k_ ≠ gb365))) (fun _ hk => hk.2) (.int .u64 ((rd_T39 l1 x17_1).f0))) (fun _ hk => hk.2) (.int .u64 ((rd_T39 l1 x17_1).f1))) (fun _ hk => hk.2) (.slice A364_2 ((rd_T39 l1 x17_1).f2).length c364_2)) (fun _ hk => ⟨hk.1.1, hk.1.2⟩)))⟩; have n2_ : Aside0 (Kd.V (Kd.slice 5 (Kd.int .u8)) 27 w10 w.heap.size (fun k_ => (P1_ k_ ∨ w.heap.size ≤ k_) ∧ some k_ ≠ (u6 : Value).ownBlock ∧ k_ ≠ gb365) (.slice A364_2 ((rd_T39 l1 x17_1).f2).length c364_2) ((rd_T39 l1 x17_1).f2)) := ⟨(by rw [hw]; exact (by refine vV ?_; exact Kd.V_mono (Kd.V_far (p := ⟨gb365, 2, none⟩) (Kd.V_far (p := ⟨gb365, 1, none⟩) (Kd.V_far (p := ⟨gb365, 0, none⟩) (Kd.V_mono HL364_2.out (fun k_ hk => (⟨hk, hk.2⟩ : _ ∧ k_ ≠ gb365))) (fun _ hk => hk.2) (.int .u64 ((rd_T39 l1 x17_1).f0))) (fun _ hk => hk.2) (.int .u64 ((rd_T39 l1 x17_1).f1))) (fun _ hk => hk.2) (.slice A364_2 ((rd_T39 l1 x17_1).f2).length c364_2)) (fun _ hk => ⟨hk.1.1.1, ⟨hk.1.1.2, hk.1.2⟩⟩)))⟩; have n3_ : Aside0 (w10.heap[gb365]? = some (.cells #[.int .u64 ((rd_T39 l1 x17_1).f0), .int .u64 ((rd_T39 l1 x17_1).f1), .slice A364_2 ((rd_T39 l1 x17_1).f2).length c364_2] 39 (0, 0))) := ⟨(by rw [hw]; exact (by refine kU ?_; refine blk_put (cs := #[.int .u64 ((rd_T39 l1 x17_1).f0), .int .u64 ((rd_T39 l1 x17_1).f1), .slice none 0 0]) ?_ 2 _ rfl; refine kU ?_; refine blk_put (cs := #[.int .u64 ((rd_T39 l1 x17_1).f0), .int .u64 0, .slice none 0 0]) ?_ 1 _ rfl; refine kU ?_; refine blk_put (cs := #[.int .u64 0, .int .u64 0, .slice none 0 0]) ?_ 0 _ rfl; refine kU ?_; exact BK365.out))⟩; have n4_ : Aside0 (Below w.heap.size w w10) := ⟨(by rw [hw]; exact bB)⟩; clear hw; clear HO_1; clear HO_6; clear HL364_2; clear BK365; clear HB; have HO_1 := n0_; have HO_6 := n1_; have HL364_2 := n2_; have BK365 := n3_; have HB := n4_; clear n0_ n1_ n2_ n3_ n4_; obtain ⟨hcz11_0, hcz11_1, hcz11_2⟩ := h3 BK365; obtain ⟨hfz11_0, hfz11_1, hfz11_2⟩ := f3 BK365) | ((with_reducible refine gate_callee (f := 58) rfl ?_); refine goesL_ (some 23) rfl rfl Tryd.func58 (by kernel_rfl) rfl #[.agg #[.int .u64 ((rd_T39 l1 x17_1).f0), .int .u64 ((rd_T39 l1 x17_1).f1), .slice A364_2 ((rd_T39 l1 x17_1).f2).length c364_2]] rfl aV ?_; (with_reducible refine (spec_Named.calls k1 ((rd_T39 l1 x17_1).f0) ((rd_T39 l1 x17_1).f1) (fun k_ => ((P1_ k_ ∨ w.heap.size ≤ k_) ∧ (some k_ ≠ (u6 : Value).ownBlock ∧ k_ ≠ gb365))) _ _ ((rd_T39 l1 x17_1).f2) t366 _ ?side1 A6.out).mono ?_); (case side1 => first | exact HL364_2.out | exact Kd.V_mono HL364_2.out (fun k_ h_ => by simp only [and_assoc] at h_ ⊢; exact h_)); rintro e w12 ⟨v367, rfl, ho0, hb⟩; refine ⟨_, rfl, ?_⟩; replace HO_1 := zM (Kd.V_elder' (kV HO_1.out) (Kd.N_base ho0) hb); replace HL364_2 := zM (Kd.V_elder' (kV HL364_2.out) (Kd.N_base ho0) hb); have HO368 := zM (Kd.N_lower (Kd.N_mono (ok' := fun k_ => (P1_ k_ ∨ w.heap.size ≤ k_) ∧ some k_ ≠ (u6 : Value).ownBlock ∧ k_ ≠ gb365) ho0 (fun k_ hk_ => ⟨Or.elim hk_ (fun hs_ => hs_.1) (fun hn_ => (.inr (Nat.le_trans (below_size bB) hn_))), Or.elim hk_ (fun hs_ => hs_.2.1) (fun hn_ => (Kd.fresh' (Kd.N_lt (by refine vN ?_; exact HO_6.out)) k_ hn_)), Or.elim hk_ (fun hs_ => hs_.2.2) (fun hn_ => (Kd.freshB (g := gb365) (o := .cells #[.int .u64 ((rd_T39 l1 x17_1).f0), .int .u64 ((rd_T39 l1 x17_1).f1), .slice A364_2 ((rd_T39 l1 x17_1).f2).length c364_2] 39 (0, 0)) (kB BK365.out) k_ hn_))⟩)) (below_size bB)); replace HO_6 := zM (Kd.N_elder' (by refine vN ?_; exact HO_6.out) (Kd.N_base ho0) hb); replace HR364_2 := zM True.intro; replace BK365 := zM (bK BK365 hb); replace HB := zM (below_step bB hb); obtain ⟨Ao14, co14, eo14⟩ := Kd.N_slice HO368.out; subst eo14) | ((with_reducible refine gate_builtin (b := .append) (xs := #[.tmp 21, .tmp 23]) rfl ?_); at_builtin; refine Kd.N_append_rows k60 (w0 := w) w.heap.size rfl (.tmp 21) (.tmp 23) 42 60 (.agg #[(.int .u64 0), (.int .u64 0), (.slice none 0 0)]) 40 rfl Tryd.underlying42 info60 rfl (by decide) (by omega) u6 x6_1 t366 _ _ _ (fun k_ => (P1_ k_ ∨ w.heap.size ≤ k_) ∧ k_ ≠ gb365) (fun k_ => ((fun k_ => (P1_ k_ ∨ w.heap.size ≤ k_) ∧ k_ ≠ gb365)) k_ ∧ some k_ ≠ (u6 : Value).ownBlock) rfl rfl ?aO ?aR (fun _ hk => hk) ?aF ?aB ?aS ?aL ?_; (case aR => exact (by skip; exact Kd.N_F (Kd.N_mono (ok' := (fun k_ => ((fun k_ => (P1_ k_ ∨ w.heap.size ≤ k_) ∧ k_ ≠ gb365)) k_ ∧ some k_ ≠ (u6 : Value).ownBlock)) (HO368.out) (fun k_ hk => ⟨⟨hk.1, hk.2.2⟩, hk.2.1⟩)))); (case aB => exact bB); (case aF => exact (fun k_ hk => ⟨(.inr (Nat.le_trans (below_size bB) hk)), Kd.freshB (g := gb365) (o := .cells #[.int .u64 ((rd_T39 l1 x17_1).f0), .int .u64 ((rd_T39 l1 x17_1).f1), .slice A364_2 ((rd_T39 l1 x17_1).f2).length c364_2] 39 (0, 0)) (kB BK365.out) k_ hk⟩)); (case aO => exact (by refine vN ?_; exact Kd.N_mono HO_6.out (fun _ hk => ⟨hk.1.1, hk.1.2⟩))); (case aS => exact (below_size bB)); (case aL => have := LMc7.out; omega); intro v370 w13 ho hb hg hat; rw [← Ny369.out] at ho; replace HO_1 := zM (Kd.V_afterv (ok := (fun k_ => (P1_ k_ ∨ w.heap.size ≤ k_) ∧ some k_ ≠ (.slice Ao14 t366.length co14 : Value).ownBlock ∧ k_ ≠ gb365)) (by refine vV ?_; exact Kd.V_mono HO_1.out (fun _ hk => ⟨⟨hk.1.1, ⟨hk.2, hk.1.2.2⟩⟩, hk.1.2.1⟩)) hg hat); replace HL364_2 := zM (Kd.V_afterv (ok := (fun k_ => (P1_ k_ ∨ w.heap.size ≤ k_) ∧ some k_ ≠ (.slice Ao14 t366.length co14 : Value).ownBlock ∧ k_ ≠ gb365)) (by refine vV ?_; exact Kd.V_mono HL364_2.out (fun _ hk => ⟨⟨hk.1.1, ⟨hk.2, hk.1.2.2⟩⟩, hk.1.2.1⟩)) hg hat); replace BK365 := zM (blk_grown (g := gb365) (o := .cells #[.int .u64 ((rd_T39 l1 x17_1).f0), .int .u64 ((rd_T39 l1 x17_1).f1), .slice A364_2 ((rd_T39 l1 x17_1).f2).length c364_2] 39 (0, 0)) (kB BK365.out) hg (Kd.N_ne HO_6.out BK365.out (by decide))); replace HO368 := zM (Kd.N_afterv (ok := (fun k_ => (P1_ k_ ∨ w.heap.size ≤ k_) ∧ k_ ≠ gb365)) (by refine vN ?_; exact Kd.N_mono HO368.out (fun _ hk => ⟨⟨hk.1, hk.2.2⟩, hk.2.1⟩)) hg hat); replace HB := zM (hb); have HO371 := zM (ho); clear HO_6; clear ho hb hg hat))
       go_roundg k1
       case measure => have := HK1.out; omega
       case rel => exact ⟨(y369), (wrap64 (x17_1 + 1)), sR, H', ⟨by have := HK1.out; omega⟩, ⟨by refine vV ?_; exact Kd.V_mono HO_1.out (fun _ hk => ⟨hk.1.1, hk.2⟩)⟩, ⟨by refine vN ?_; exact Kd.N_mono HO371.out (fun _ hk => hk.1)⟩, ⟨bB⟩⟩
      ·rw [if_neg c7] at H
       exact absurd H (by simp)
     ·rw [if_neg c5] at H
      exact absurd H (by simp)
    ·rw [if_neg c4] at H
     exact absurd H (by simp)
   ·rw [if_neg c3] at H
    have c3b0 : decide (x17_1 < (l1.length : Int)) = false := decide_eq_false c3
    clear c3
    have H' := zM H
    clear H
    go_wp2
    go_loopg [9, 28] k1 (fun kq v9 v28 w' => ∃ (x9_2 : List (List Int)) (x28_2 : Int), v28 = .int .i64 x28_2 ∧ Aside0 (laws_growthHashes.l1 kq x6_1 x9_2 l0 (l0.length : Int) x28_2 = some (r1, r2)) ∧ Aside0 (kq ≤ k1) ∧ Aside0 (Kd.N k60 60 w' w.heap.size (fun k_ => (P1_ k_ ∨ w.heap.size ≤ k_) ∧ some k_ ≠ (v9 : Value).ownBlock) u6 x6_1) ∧ Aside0 (Kd.N (Kd.slice 5 (Kd.int .u8)) 27 w' w.heap.size (fun k_ => (P1_ k_ ∨ w.heap.size ≤ k_) ∧ some k_ ≠ (u6 : Value).ownBlock) v9 x9_2) ∧ Aside0 (Below w.heap.size w w'))
    case atStart => exact ⟨(([] : List (List Int))), (0), sR, H', ⟨Nat.le_refl _⟩, ⟨by refine vN ?_; exact Kd.N_mono HO_6.out (fun _ hk => ⟨hk, (by simp [Value.ownBlock])⟩)⟩, ⟨by first | exact Kd.S_nil _ _ _ _ _ | exact Kd.N_nil _ _ _ _ _ | exact Kd.V_nil _ _ _ _ _ | exact Kd.Q_nil _ _ _ _ _ | exact Kd.R_nil _ _ _ _ _⟩, ⟨bB⟩⟩
    case round =>
     clear H'
     try clear c1
     try clear p2
     try clear c3
     try clear c3b0
     try clear p3
     try clear q3
     try clear hx3
     try clear c4
     try clear c4b0
     try clear c5
     try clear c5b0
     try clear p6
     try clear c7
     try clear hcz11_0
     try clear hcz11_1
     try clear hcz11_2
     try clear hcz9_0
     try clear hcz9_1
     try clear hcz9_2
     try clear hfz11_0
     try clear hfz11_1
     try clear hfz11_2
     try clear hfz9_0
     try clear hfz9_1
     try clear hfz9_2
     try clear hx364_0
     try clear hx364_1
     try clear hx364_2
     try clear p2
     try clear p364
     try clear q364
     obtain ⟨x9_2, x28_2, rfl, HA, HK2, HO_6, HO_9, HB⟩ := hrel
     cases gk with
     | zero => exact absurd HA.out (by simp [laws_growthHashes.l1])
     | succ k2 =>
      have H := HA.out
      clear HA
      simp only [laws_growthHashes.l1] at H
      by_cases c15 : x28_2 < (l0.length : Int)
      ·rw [if_pos c15] at H
       have c15b0 : decide (x28_2 < (l0.length : Int)) = true := decide_eq_true c15
       clear c15
       by_cases c16 : 0 ≤ x28_2
       ·rw [if_pos c16] at H
        have c16b0 : decide (0 ≤ x28_2) = true := decide_eq_true c16
        clear c16
        by_cases c17 : x28_2 < (l0.length : Int)
        ·rw [if_pos c17] at H
         have c17b0 : decide (x28_2 < (l0.length : Int)) = true := decide_eq_true c17
         clear c17
         have H' := zM H
         clear H
         have p372 : 0 ≤ (x28_2 : Int) := dA
         have q372 : x28_2 < (l0.length : Int) := dA
         obtain ⟨ad372, e372, hx372_0, hx372_1⟩ := at_T54 HR0.out x28_2 p372 q372
         cases e372
         replace hx372_0 := (HB.out.cell (World.block_lt_of_cell? w _ hx372_0)).trans hx372_0
         replace hx372_1 := (HB.out.cell (World.block_lt_of_cell? w _ hx372_1)).trans hx372_1
         replace p372 := eq_true p372
         replace q372 := eq_true q372
         go_wp2_with (first | ((with_reducible refine gate_dst (N := 11) rfl ?_); refine bx 11 #[.int .u64 0, .int .u64 0] 54 ?_; intro gb373 hg w18 hbox hb; replace HO_6 := zM (Kd.N_below (Kd.N_elderB (by refine vN ?_; exact HO_6.out) gb373 (Nat.le_of_eq hg.symm)) hb); replace HO_9 := zM (Kd.N_below (Kd.N_elderB (by refine vN ?_; exact HO_9.out) gb373 (Nat.le_of_eq hg.symm)) hb); have BK373 := zM (hbox); have GW373 := zM ((gB hg : w.heap.size ≤ gb373)); have GE373 := zM ((gB hg : w.heap.size ≤ gb373)); replace HB := zM (below_step bB hb); clear hb hbox hg; obtain ⟨hcz19_0, hcz19_1⟩ := h2 BK373; obtain ⟨hfz19_0, hfz19_1⟩ := f2 BK373; obtain ⟨Ao20, co20, eo20⟩ := Kd.N_slice HO_6.out; subst eo20))
         go_loopg [9, 12, 34] k2 (fun kq v9 v12 v34 w' => ∃ (x9_3 : List (List Int)) (x12_3 : Bool) (x34_3 : Int), v12 = .bool x12_3 ∧ v34 = .int .i64 x34_3 ∧ Aside0 (laws_growthHashes.l2 kq x6_1 x9_3 x12_3 l0 (l0.length : Int) x28_2 (x6_1.length : Int) x34_3 ((rd_T54 l0 x28_2).f0) ((rd_T54 l0 x28_2).f1) = some (r1, r2)) ∧ Aside0 (kq ≤ k2) ∧ Aside0 (Kd.N k60 60 w' w.heap.size (fun k_ => (P1_ k_ ∨ w.heap.size ≤ k_) ∧ some k_ ≠ (v9 : Value).ownBlock ∧ k_ ≠ gb373) (.slice Ao20 x6_1.length co20) x6_1) ∧ Aside0 (Kd.N (Kd.slice 5 (Kd.int .u8)) 27 w' w.heap.size (fun k_ => (P1_ k_ ∨ w.heap.size ≤ k_) ∧ some k_ ≠ ((.slice Ao20 x6_1.length co20) : Value).ownBlock ∧ k_ ≠ gb373) v9 x9_3) ∧ Aside0 (w'.heap[gb373]? = some (.cells #[.int .u64 ((rd_T54 l0 x28_2).f0), .int .u64 ((rd_T54 l0 x28_2).f1)] 54 (0, 0))) ∧ Aside0 (Below w.heap.size w w'))
         case atStart => exact ⟨(x9_2), (false), (0), sR, sR, H', ⟨Nat.le_refl _⟩, ⟨by refine vN ?_; exact Kd.N_mono (Kd.N_far (p := ⟨gb373, 1, none⟩) (Kd.N_far (p := ⟨gb373, 0, none⟩) (Kd.N_mono HO_6.out (fun k_ hk => (⟨hk, hk.2⟩ : _ ∧ k_ ≠ gb373))) (fun _ hk => hk.2) (.int .u64 ((rd_T54 l0 x28_2).f0))) (fun _ hk => hk.2) (.int .u64 ((rd_T54 l0 x28_2).f1))) (fun _ hk => ⟨hk.1.1.1, ⟨hk.1.1.2, hk.1.2⟩⟩)⟩, ⟨by refine vN ?_; exact Kd.N_mono (Kd.N_far (p := ⟨gb373, 1, none⟩) (Kd.N_far (p := ⟨gb373, 0, none⟩) (Kd.N_mono HO_9.out (fun k_ hk => (⟨hk, hk.2⟩ : _ ∧ k_ ≠ gb373))) (fun _ hk => hk.2) (.int .u64 ((rd_T54 l0 x28_2).f0))) (fun _ hk => hk.2) (.int .u64 ((rd_T54 l0 x28_2).f1))) (fun _ hk => ⟨hk.1.1.1, ⟨hk.1.1.2, hk.1.2⟩⟩)⟩, ⟨by refine kU ?_; refine blk_put (cs := #[.int .u64 ((rd_T54 l0 x28_2).f0), .int .u64 0]) ?_ 1 _ rfl; refine kU ?_; refine blk_put (cs := #[.int .u64 0, .int .u64 0]) ?_ 0 _ rfl; refine kU ?_; exact BK373.out⟩, ⟨bB⟩⟩
         case round =>
          clear H'
          try clear c1
          try clear p2
          try clear c3
          try clear c3b0
          try clear p3
          try clear q3
          try clear hx3
          try clear c4
          try clear c4b0
          try clear c5
          try clear c5b0
          try clear p6
          try clear c7
          try clear c15
          try clear c15b0
          try clear c16
          try clear c16b0
          try clear c17
          try clear c17b0
          try clear hcz11_0
          try clear hcz11_1
          try clear hcz11_2
          try clear hcz19_0
          try clear hcz19_1
          try clear hcz9_0
          try clear hcz9_1
          try clear hcz9_2
          try clear hfz11_0
          try clear hfz11_1
          try clear hfz11_2
          try clear hfz19_0
          try clear hfz19_1
          try clear hfz9_0
          try clear hfz9_1
          try clear hfz9_2
          try clear hx364_0
          try clear hx364_1
          try clear hx364_2
          try clear hx372_0
          try clear hx372_1
          try clear p2
          try clear p3
          try clear p364
          try clear p372
          try clear p6
          try clear q3
          try clear q364
          try clear q372
          obtain ⟨x9_3, x12_3, x34_3, rfl, rfl, HA, HK3, HO_6, HO_9, BK373, HB⟩ := hrel
          cases gk with
          | zero => exact absurd HA.out (by simp [laws_growthHashes.l2])
          | succ k3 =>
           have H := HA.out
           clear HA
           simp only [laws_growthHashes.l2] at H
           by_cases c21 : x34_3 < (x6_1.length : Int)
           ·rw [if_pos c21] at H
            have c21b0 : decide (x34_3 < (x6_1.length : Int)) = true := decide_eq_true c21
            clear c21
            by_cases c22 : 0 ≤ x34_3
            ·rw [if_pos c22] at H
             have c22b0 : decide (0 ≤ x34_3) = true := decide_eq_true c22
             clear c22
             by_cases c23 : x34_3 < (x6_1.length : Int)
             ·rw [if_pos c23] at H
              have c23b0 : decide (x34_3 < (x6_1.length : Int)) = true := decide_eq_true c23
              clear c23
              by_cases c24 : (((rd_T60 x6_1 x34_3).f0.f0) == ((rd_T54 l0 x28_2).f0) && (((rd_T60 x6_1 x34_3).f0.f1) == ((rd_T54 l0 x28_2).f1))) = true
              ·rw [if_pos c24] at H
               have c24b0 : (((rd_T60 x6_1 x34_3).f0.f0) == ((rd_T54 l0 x28_2).f0) && (((rd_T60 x6_1 x34_3).f0.f1) == ((rd_T54 l0 x28_2).f1))) = true := c24
               (try (have c24b1 : decide (((rd_T60 x6_1 x34_3).f0.f0) = ((rd_T54 l0 x28_2).f0) && (((rd_T60 x6_1 x34_3).f0.f1) == ((rd_T54 l0 x28_2).f1))) = true := by simpa using c24))
               (try (have c24b2 : (((rd_T60 x6_1 x34_3).f0.f0) == ((rd_T54 l0 x28_2).f0) && (((rd_T60 x6_1 x34_3).f0.f1) == ((rd_T54 l0 x28_2).f1))) = true := by simpa using c24))
               clear c24
               by_cases c25 : x12_3 = true
               ·subst c25
                have H1 : (laws_growthHashes.l2 k3 x6_1 x9_3 true l0 (l0.length : Int) x28_2 (x6_1.length : Int) (wrap64 (x34_3 + 1)) ((rd_T54 l0 x28_2).f0) ((rd_T54 l0 x28_2).f1)) = some (r1, r2) := by rw [if_pos rfl] at H; exact H
                clear H
                have H := H1
                clear H1
                have H' := zM H
                clear H
                have p374 : 0 ≤ (x34_3 : Int) := dA
                have q374 : x34_3 < (x6_1.length : Int) := dA
                obtain ⟨ad374, A374_2, c374_2, e374, hx374_0, hx374_1, hx374_2, hl374_2, hi374_2⟩ := at_T60 (Kd.N_reads' HO_6.out).2.2 x34_3 p374 q374
                cases e374
                obtain ⟨ce374, hce374, hMe374, hcc374⟩ := Kd.N_get HO_6.out z60 x34_3 p374 (by first | exact q374 | exact dA | (have e_ := (Kd.N_reads' HO_6.out).1; omega))
                obtain ⟨ua374_2, uc374_2, rfl, ul374_2, ge374_2⟩ := k60_openF hMe374
                have hv374_2 := hcc374 2 _ rfl
                rw [add_field _ _ 2 (by omega)] at hv374_2
                replace hv374_2 := Option.some.inj (hv374_2.symm.trans hx374_2)
                injection hv374_2 with hva_ hvn_ hvc_
                rw [hva_] at ge374_2
                rw [hvc_] at ul374_2
                have HL374_2 := zM (show Kd.V (Kd.int .u8) 5 _ w.heap.size _ _ ((rd_T60 x6_1 x34_3).f1) from Kd.V_mk ul374_2 ge374_2)
                clear hva_ hvn_ hvc_ ge374_2 ul374_2
                clear hcc374 hce374
                have HR374_2 := zM hi374_2
                have HC374_2 := zM hl374_2
                clear hi374_2 hl374_2
                replace p374 := eq_true p374
                replace q374 := eq_true q374
                go_wp2_with (first | ((with_reducible refine gate_dst (N := 14) rfl ?_); refine bx 14 #[.int .u64 0, .int .u64 0, .slice none 0 0] 60 ?_; intro gb375 hg w26 hbox hb; replace HO_6 := zM (Kd.N_below (Kd.N_elderB (by refine vN ?_; exact HO_6.out) gb375 (Nat.le_of_eq hg.symm)) hb); replace HO_9 := zM (Kd.N_below (Kd.N_elderB (by refine vN ?_; exact HO_9.out) gb375 (Nat.le_of_eq hg.symm)) hb); replace HL374_2 := zM (Kd.V_below (Kd.V_elderB (kV HL374_2.out) gb375 (Nat.le_of_eq hg.symm)) hb); replace HR374_2 := zM True.intro; have BK375 := zM (hbox); have GW375 := zM ((gB hg : w.heap.size ≤ gb375)); have GE375 := zM ((gB hg : w.heap.size ≤ gb375)); replace HB := zM (below_step bB hb); have NB373_375 := zM ((by rw [hg]; exact Nat.ne_of_lt (blk_lt (g := gb373) (o := .cells #[.int .u64 ((rd_T54 l0 x28_2).f0), .int .u64 ((rd_T54 l0 x28_2).f1)] 54 (0, 0)) (kB BK373.out)) : gb373 ≠ gb375)); have NB375_373 := zM ((by rw [hg]; exact Nat.ne_of_gt (blk_lt (g := gb373) (o := .cells #[.int .u64 ((rd_T54 l0 x28_2).f0), .int .u64 ((rd_T54 l0 x28_2).f1)] 54 (0, 0)) (kB BK373.out)) : gb375 ≠ gb373)); replace BK373 := zM (bK BK373 hb); clear hb hbox hg; have hnb27 := NB375_373.out; have hnc27 := NB373_375.out; obtain ⟨hcz28_0, hcz28_1, hcz28_2⟩ := h3 BK375; obtain ⟨hfz28_0, hfz28_1, hfz28_2⟩ := f3 BK375; obtain ⟨hcz29_0, hcz29_1⟩ := h2 BK373; obtain ⟨hfz29_0, hfz29_1⟩ := f2 BK373))
                go_roundg k3
                case measure => have := HK1.out; have := HK2.out; have := HK3.out; omega
                case rel => exact ⟨(x9_3), (true), (wrap64 (x34_3 + 1)), sR, sR, H', ⟨by have := HK1.out; have := HK2.out; have := HK3.out; omega⟩, ⟨by refine vN ?_; exact Kd.N_mono (Kd.N_far (p := ⟨gb375, 2, none⟩) (Kd.N_far (p := ⟨gb375, 1, none⟩) (Kd.N_far (p := ⟨gb375, 0, none⟩) (Kd.N_mono HO_6.out (fun k_ hk => (⟨hk, hk.2⟩ : _ ∧ k_ ≠ gb375))) (fun _ hk => hk.2) (.int .u64 ((rd_T60 x6_1 x34_3).f0.f0))) (fun _ hk => hk.2) (.int .u64 ((rd_T60 x6_1 x34_3).f0.f1))) (fun _ hk => hk.2) (.slice A374_2 ((rd_T60 x6_1 x34_3).f1).length c374_2)) (fun _ hk => ⟨hk.1.1.1, ⟨hk.1.1.2.1, hk.1.1.2.2⟩⟩)⟩, ⟨by refine vN ?_; exact Kd.N_mono (Kd.N_far (p := ⟨gb375, 2, none⟩) (Kd.N_far (p := ⟨gb375, 1, none⟩) (Kd.N_far (p := ⟨gb375, 0, none⟩) (Kd.N_mono HO_9.out (fun k_ hk => (⟨hk, hk.2⟩ : _ ∧ k_ ≠ gb375))) (fun _ hk => hk.2) (.int .u64 ((rd_T60 x6_1 x34_3).f0.f0))) (fun _ hk => hk.2) (.int .u64 ((rd_T60 x6_1 x34_3).f0.f1))) (fun _ hk => hk.2) (.slice A374_2 ((rd_T60 x6_1 x34_3).f1).length c374_2)) (fun _ hk => ⟨hk.1.1.1, ⟨hk.1.1.2.1, hk.1.1.2.2⟩⟩)⟩, ⟨by refine kU ?_; refine blk_far ?_ NB373_375.out _; refine kU ?_; refine blk_far ?_ NB373_375.out _; refine kU ?_; refine blk_far ?_ NB373_375.out _; refine kU ?_; exact BK373.out⟩, ⟨bB⟩⟩
               ·replace c25 := Bool.eq_false_iff.mpr c25
                subst c25
                have H1 : ((some (([] : List Int) : List Int)).bind fun y376 => (if y376.length + ((rd_T60 x6_1 x34_3).f1).length < 140737488355328 then (if x9_3.length < 5864062014805 then (laws_growthHashes.l2 k3 x6_1 (x9_3 ++ [(y376 ++ ((rd_T60 x6_1 x34_3).f1))]) true l0 (l0.length : Int) x28_2 (x6_1.length : Int) (wrap64 (x34_3 + 1)) ((rd_T54 l0 x28_2).f0) ((rd_T54 l0 x28_2).f1)) else (none)) else (none))) = some (r1, r2) := by rw [if_neg (show ¬ (false = true) by decide)] at H; exact H
                clear H
                have H := H1
                clear H1
                obtain ⟨y376, hy376⟩ : ∃ y_ : List Int, y_ = (([] : List Int)) := ⟨_, rfl⟩
                replace H : (if y376.length + ((rd_T60 x6_1 x34_3).f1).length < 140737488355328 then (if x9_3.length < 5864062014805 then (laws_growthHashes.l2 k3 x6_1 (x9_3 ++ [(y376 ++ ((rd_T60 x6_1 x34_3).f1))]) true l0 (l0.length : Int) x28_2 (x6_1.length : Int) (wrap64 (x34_3 + 1)) ((rd_T54 l0 x28_2).f0) ((rd_T54 l0 x28_2).f1)) else (none)) else (none)) = some (r1, r2) := by first | (rw [hy376]; with_reducible exact H) | (have H := (Option.bind_some _ _).symm.trans H; first | (rw [hy376]; with_reducible exact H) | with_reducible exact H) | (rw [hy376]; exact H) | exact H
                have Ny376 := zM hy376
                clear hy376
                by_cases c30 : y376.length + ((rd_T60 x6_1 x34_3).f1).length < 140737488355328
                ·rw [if_pos c30] at H
                 have LMc30 := zM c30
                 clear c30
                 obtain ⟨y379, hy379⟩ : ∃ y_ : List Int, y_ = (y376 ++ ((rd_T60 x6_1 x34_3).f1)) := ⟨_, rfl⟩
                 replace H : (if x9_3.length < 5864062014805 then (laws_growthHashes.l2 k3 x6_1 (x9_3 ++ [y379]) true l0 (l0.length : Int) x28_2 (x6_1.length : Int) (wrap64 (x34_3 + 1)) ((rd_T54 l0 x28_2).f0) ((rd_T54 l0 x28_2).f1)) else (none)) = some (r1, r2) := by first | (rw [hy379]; with_reducible exact H) | (have H := (Option.bind_some _ _).symm.trans H; first | (rw [hy379]; with_reducible exact H) | with_reducible exact H) | (rw [hy379]; exact H) | exact H
                 have Ny379 := zM hy379
                 clear hy379
                 by_cases c31 : x9_3.length < 5864062014805
                 ·rw [if_pos c31] at H
                  have LMc31 := zM c31
                  clear c31
                  obtain ⟨y382, hy382⟩ : ∃ y_ : List (List Int), y_ = (x9_3 ++ [y379]) := ⟨_, rfl⟩
                  replace H : (laws_growthHashes.l2 k3 x6_1 y382 true l0 (l0.length : Int) x28_2 (x6_1.length : Int) (wrap64 (x34_3 + 1)) ((rd_T54 l0 x28_2).f0) ((rd_T54 l0 x28_2).f1)) = some (r1, r2) := by first | (rw [hy382]; with_reducible exact H) | (have H := (Option.bind_some _ _).symm.trans H; first | (rw [hy382]; with_reducible exact H) | with_reducible exact H) | (rw [hy382]; exact H) | exact H
                  have Ny382 := zM hy382
                  clear hy382
                  have H' := zM H
                  clear H
                  have p374 : 0 ≤ (x34_3 : Int) := dA
                  have q374 : x34_3 < (x6_1.length : Int) := dA
                  obtain ⟨ad374, A374_2, c374_2, e374, hx374_0, hx374_1, hx374_2, hl374_2, hi374_2⟩ := at_T60 (Kd.N_reads' HO_6.out).2.2 x34_3 p374 q374
                  cases e374
                  obtain ⟨ce374, hce374, hMe374, hcc374⟩ := Kd.N_get HO_6.out z60 x34_3 p374 (by first | exact q374 | exact dA | (have e_ := (Kd.N_reads' HO_6.out).1; omega))
                  obtain ⟨ua374_2, uc374_2, rfl, ul374_2, ge374_2⟩ := k60_openF hMe374
                  have hv374_2 := hcc374 2 _ rfl
                  rw [add_field _ _ 2 (by omega)] at hv374_2
                  replace hv374_2 := Option.some.inj (hv374_2.symm.trans hx374_2)
                  injection hv374_2 with hva_ hvn_ hvc_
                  rw [hva_] at ge374_2
                  rw [hvc_] at ul374_2
                  have HL374_2 := zM (show Kd.V (Kd.int .u8) 5 _ w.heap.size _ _ ((rd_T60 x6_1 x34_3).f1) from Kd.V_mk ul374_2 ge374_2)
                  clear hva_ hvn_ hvc_ ge374_2 ul374_2
                  clear hcc374 hce374
                  have HR374_2 := zM hi374_2
                  have HC374_2 := zM hl374_2
                  clear hi374_2 hl374_2
                  replace p374 := eq_true p374
                  replace q374 := eq_true q374
                  go_wp2_with (first | ((with_reducible refine gate_dst (N := 14) rfl ?_); refine bx 14 #[.int .u64 0, .int .u64 0, .slice none 0 0] 60 ?_; intro gb375 hg w32 hbox hb; replace HO_6 := zM (Kd.N_below (Kd.N_elderB (by refine vN ?_; exact HO_6.out) gb375 (Nat.le_of_eq hg.symm)) hb); replace HO_9 := zM (Kd.N_below (Kd.N_elderB (by refine vN ?_; exact HO_9.out) gb375 (Nat.le_of_eq hg.symm)) hb); replace HL374_2 := zM (Kd.V_below (Kd.V_elderB (kV HL374_2.out) gb375 (Nat.le_of_eq hg.symm)) hb); replace HR374_2 := zM True.intro; have BK375 := zM (hbox); have GW375 := zM ((gB hg : w.heap.size ≤ gb375)); have GE375 := zM ((gB hg : w.heap.size ≤ gb375)); replace HB := zM (below_step bB hb); have NB373_375 := zM ((by rw [hg]; exact Nat.ne_of_lt (blk_lt (g := gb373) (o := .cells #[.int .u64 ((rd_T54 l0 x28_2).f0), .int .u64 ((rd_T54 l0 x28_2).f1)] 54 (0, 0)) (kB BK373.out)) : gb373 ≠ gb375)); have NB375_373 := zM ((by rw [hg]; exact Nat.ne_of_gt (blk_lt (g := gb373) (o := .cells #[.int .u64 ((rd_T54 l0 x28_2).f0), .int .u64 ((rd_T54 l0 x28_2).f1)] 54 (0, 0)) (kB BK373.out)) : gb375 ≠ gb373)); replace BK373 := zM (bK BK373 hb); clear hb hbox hg; have hnb33 := NB375_373.out; have hnc33 := NB373_375.out; obtain ⟨hcz34_0, hcz34_1, hcz34_2⟩ := h3 BK375; obtain ⟨hfz34_0, hfz34_1, hfz34_2⟩ := f3 BK375; obtain ⟨hcz35_0, hcz35_1⟩ := h2 BK373; obtain ⟨hfz35_0, hfz35_1⟩ := f2 BK373) | ((with_reducible refine gate_dst (N := 47) rfl ?_); refine Kd.R_lit (Kd.int .u8) _ 5 ?hg (N := 47) ?hd (xs := ([] : List Int)) (inner := []) (ok := fun _ => True) (okp := fun _ => True) ?hr ?hp (fun _ hk => hk) trivial (Below.refl _ _) (Nat.le_refl _) (by simp) ?_; (case hd => rfl); (case hg => rfl); (case hr => first | (go_simp; done) | (go_simp; rfl)); (case hp => exact (Reps.none _ _)); intro v377 w36 ho37 hb hg_ hnew_; clear hg_ hnew_; (first | rw [← Ny376.out] at ho37 | (simp only [Int.reduceToNat] at ho37; rw [← Ny376.out] at ho37)); replace HO_6 := zM (Kd.N_elder' (by refine vN ?_; exact (Kd.N_mono (Kd.N_far (p := ⟨gb375, 2, none⟩) (Kd.N_far (p := ⟨gb375, 1, none⟩) (Kd.N_far (p := ⟨gb375, 0, none⟩) (Kd.N_mono HO_6.out (fun k_ hk => (⟨hk, hk.2⟩ : _ ∧ k_ ≠ gb375))) (fun _ hk => hk.2) (.int .u64 ((rd_T60 x6_1 x34_3).f0.f0))) (fun _ hk => hk.2) (.int .u64 ((rd_T60 x6_1 x34_3).f0.f1))) (fun _ hk => hk.2) (.slice A374_2 ((rd_T60 x6_1 x34_3).f1).length c374_2)) (fun _ h_ => h_.1))) (Kd.R_base ho37) hb); replace HO_9 := zM (Kd.N_elder' (by refine vN ?_; exact (Kd.N_mono (Kd.N_far (p := ⟨gb375, 2, none⟩) (Kd.N_far (p := ⟨gb375, 1, none⟩) (Kd.N_far (p := ⟨gb375, 0, none⟩) (Kd.N_mono HO_9.out (fun k_ hk => (⟨hk, hk.2⟩ : _ ∧ k_ ≠ gb375))) (fun _ hk => hk.2) (.int .u64 ((rd_T60 x6_1 x34_3).f0.f0))) (fun _ hk => hk.2) (.int .u64 ((rd_T60 x6_1 x34_3).f0.f1))) (fun _ hk => hk.2) (.slice A374_2 ((rd_T60 x6_1 x34_3).f1).length c374_2)) (fun _ h_ => h_.1))) (Kd.R_base ho37) hb); have HO378 := zM (Kd.R_lower (Kd.R_newM (M := fun k_ => (w.heap.size ≤ k_)) ho37 (below_size bB) (fun k_ h_ => h_)) (below_size bB)); replace BK373 := zM (blk_below (g := gb373) (o := .cells #[.int .u64 ((rd_T54 l0 x28_2).f0), .int .u64 ((rd_T54 l0 x28_2).f1)] 54 (0, 0)) (by refine kU ?_; refine blk_far ?_ NB373_375.out _; refine kU ?_; refine blk_far ?_ NB373_375.out _; refine kU ?_; refine blk_far ?_ NB373_375.out _; refine kU ?_; exact BK373.out) hb); replace HR374_2 := zM (Kd.C_below ((Kd.V_reads' (by refine vV ?_; exact (Kd.V_mono (Kd.V_far (p := ⟨gb375, 2, none⟩) (Kd.V_far (p := ⟨gb375, 1, none⟩) (Kd.V_far (p := ⟨gb375, 0, none⟩) (Kd.V_mono HL374_2.out (fun k_ hk => (⟨hk, hk.2⟩ : _ ∧ k_ ≠ gb375))) (fun _ hk => hk.2) (.int .u64 ((rd_T60 x6_1 x34_3).f0.f0))) (fun _ hk => hk.2) (.int .u64 ((rd_T60 x6_1 x34_3).f0.f1))) (fun _ hk => hk.2) (.slice A374_2 ((rd_T60 x6_1 x34_3).f1).length c374_2)) (fun _ h_ => h_.1)))).2.2) hb); replace HL374_2 := zM (Kd.V_elder' (by refine vV ?_; exact (Kd.V_mono (Kd.V_far (p := ⟨gb375, 2, none⟩) (Kd.V_far (p := ⟨gb375, 1, none⟩) (Kd.V_far (p := ⟨gb375, 0, none⟩) (Kd.V_mono HL374_2.out (fun k_ hk => (⟨hk, hk.2⟩ : _ ∧ k_ ≠ gb375))) (fun _ hk => hk.2) (.int .u64 ((rd_T60 x6_1 x34_3).f0.f0))) (fun _ hk => hk.2) (.int .u64 ((rd_T60 x6_1 x34_3).f0.f1))) (fun _ hk => hk.2) (.slice A374_2 ((rd_T60 x6_1 x34_3).f1).length c374_2)) (fun _ h_ => h_.1))) (Kd.R_base ho37) hb); replace BK375 := zM (blk_below (g := gb375) (o := .cells #[.int .u64 ((rd_T60 x6_1 x34_3).f0.f0), .int .u64 ((rd_T60 x6_1 x34_3).f0.f1), .slice A374_2 ((rd_T60 x6_1 x34_3).f1).length c374_2] 60 (0, 0)) (by refine kU ?_; refine blk_put (cs := #[.int .u64 ((rd_T60 x6_1 x34_3).f0.f0), .int .u64 ((rd_T60 x6_1 x34_3).f0.f1), .slice none 0 0]) ?_ 2 _ rfl; refine kU ?_; refine blk_put (cs := #[.int .u64 ((rd_T60 x6_1 x34_3).f0.f0), .int .u64 0, .slice none 0 0]) ?_ 1 _ rfl; refine kU ?_; refine blk_put (cs := #[.int .u64 0, .int .u64 0, .slice none 0 0]) ?_ 0 _ rfl; refine kU ?_; exact BK375.out) hb); replace HB := zM (below_step bB hb); clear hb ho37; obtain ⟨hcz38_0, hcz38_1, hcz38_2⟩ := h3 BK375; obtain ⟨hfz38_0, hfz38_1, hfz38_2⟩ := f3 BK375) | ((with_reducible refine gate_builtin (b := .append) (xs := #[.tmp 47, .tmp 49]) rfl ?_); at_builtin; refine Kd.R_append_rows (Kd.int .u8) (w0 := w) w.heap.size rfl (.tmp 47) (.tmp 49) 27 5 (.int .u8 0) 1 rfl Tryd.underlying27 info5 rfl (by decide) (by omega) v377 y376 ((rd_T60 x6_1 x34_3).f1) _ _ _ (fun k_ => (w.heap.size ≤ k_)) (fun _ => False) rfl rfl ?aO ?aR (fun _ _ h => h) (fun _ h => h.elim) ?aF ?aB ?aS ?aL ?_; (case aR => repeat (first | exact (by repeat (first | (with_reducible exact HR374_2.out) | (with_reducible refine Kd.C_alloc ?_ _) | (with_reducible refine Kd.C_drewN ?_ _) | (with_reducible refine Kd.C_drew ?_) | exact HR374_2.out)) | (with_reducible refine Kd.C_alloc ?_ _) | (with_reducible refine Kd.C_drewN ?_ _) | (with_reducible refine Kd.C_drew ?_))); (case aB => exact bB); (case aF => exact (fun k_ hk => (Nat.le_trans (below_size bB) hk))); (case aO => exact (by refine vR ?_; exact Kd.R_mono HO378.out (fun _ hk => hk.1))); (case aS => exact (below_size bB)); (case aL => have := LMc30.out; omega); intro v380 w39 ho hb hg hat; rw [← Ny379.out] at ho; replace HO_6 := zM (Kd.N_afterv (ok := (fun k_ => (P1_ k_ ∨ w.heap.size ≤ k_) ∧ some k_ ≠ (u9 : Value).ownBlock ∧ k_ ≠ gb373 ∧ k_ ≠ gb375)) (by refine vN ?_; exact Kd.N_mono HO_6.out (fun _ hk => ⟨⟨hk.1.1.1, ⟨hk.1.1.2.1, ⟨hk.1.1.2.2, hk.1.2⟩⟩⟩, hk.2⟩)) hg hat); replace HO_9 := zM (Kd.N_afterv (ok := (fun k_ => (P1_ k_ ∨ w.heap.size ≤ k_) ∧ some k_ ≠ (.slice (some ad374) x6_1.length co20 : Value).ownBlock ∧ k_ ≠ gb373 ∧ k_ ≠ gb375)) (by refine vN ?_; exact Kd.N_mono HO_9.out (fun _ hk => ⟨⟨hk.1.1.1, ⟨hk.1.1.2.1, ⟨hk.1.1.2.2, hk.1.2⟩⟩⟩, hk.2⟩)) hg hat); replace BK373 := zM (blk_grown (g := gb373) (o := .cells #[.int .u64 ((rd_T54 l0 x28_2).f0), .int .u64 ((rd_T54 l0 x28_2).f1)] 54 (0, 0)) (kB BK373.out) hg (Kd.R_ne HO378.out BK373.out (by decide))); replace HL374_2 := zM (Kd.V_afterv (ok := (fun k_ => (P1_ k_ ∨ w.heap.size ≤ k_) ∧ some k_ ≠ (.slice (some ad374) x6_1.length co20 : Value).ownBlock ∧ some k_ ≠ (u9 : Value).ownBlock ∧ k_ ≠ gb373 ∧ k_ ≠ gb375)) (by refine vV ?_; exact Kd.V_mono HL374_2.out (fun _ hk => ⟨⟨hk.1.1.1.1, ⟨hk.1.1.2, ⟨hk.1.1.1.2.1, ⟨hk.1.1.1.2.2, hk.1.2⟩⟩⟩⟩, hk.2⟩)) hg hat); replace BK375 := zM (blk_grown (g := gb375) (o := .cells #[.int .u64 ((rd_T60 x6_1 x34_3).f0.f0), .int .u64 ((rd_T60 x6_1 x34_3).f0.f1), .slice A374_2 ((rd_T60 x6_1 x34_3).f1).length c374_2] 60 (0, 0)) (kB BK375.out) hg (Kd.R_ne HO378.out BK375.out (by decide))); replace HB := zM (hb); have HO381 := zM (ho); clear HO378; clear ho hb hg hat; obtain ⟨Ao41, co41, eo41⟩ := Kd.R_slice HO381.out; subst eo41) | ((with_reducible refine gate_builtin (b := .append) (xs := #[.tmp 46, .tmp 51]) rfl ?_); at_builtin; refine Kd.N_append (Kd.slice 5 (Kd.int .u8)) (w0 := w) w.heap.size rfl (.tmp 46) (.tmp 51) 25 27 (.slice none 0 0) 24 rfl Tryd.underlying25 info27 rfl (by decide) (by omega) u9 x9_3 y379 [.slice Ao41 y379.length co41] (fun k_ => (P1_ k_ ∨ w.heap.size ≤ k_) ∧ some k_ ≠ (.slice (some ad374) x6_1.length co20 : Value).ownBlock ∧ k_ ≠ gb373 ∧ k_ ≠ gb375) (fun k_ => ((fun k_ => (P1_ k_ ∨ w.heap.size ≤ k_) ∧ some k_ ≠ (.slice (some ad374) x6_1.length co20 : Value).ownBlock ∧ k_ ≠ gb373 ∧ k_ ≠ gb375)) k_ ∧ some k_ ≠ (u9 : Value).ownBlock) rfl rfl ?aP (fun _ hk => hk) ?aF ?aO ?aB ?aS ?aL ?_; (case aP => exact (Kd.FK_slice_mk (Kd.R_reads' (Kd.R_mono (ok' := (fun k_ => ((fun k_ => (P1_ k_ ∨ w.heap.size ≤ k_) ∧ some k_ ≠ (.slice (some ad374) x6_1.length co20 : Value).ownBlock ∧ k_ ≠ gb373 ∧ k_ ≠ gb375)) k_ ∧ some k_ ≠ (u9 : Value).ownBlock)) (Kd.R_types (Kd.R_types (Kd.R_apart' (Kd.R_apart' (HO381.out) (Kd.N_typed HO_6.out) (by decide)) (Kd.N_typed HO_9.out) (by decide)) BK373.out (by decide)) BK375.out (by decide)) (fun k_ hk => ⟨⟨(.inr (hk.1.1.1.1)), ⟨hk.1.1.1.2, ⟨hk.1.2, hk.2⟩⟩⟩, hk.1.1.2⟩))).2.1 (Kd.R_F (Kd.R_mono (ok' := (fun k_ => ((fun k_ => (P1_ k_ ∨ w.heap.size ≤ k_) ∧ some k_ ≠ (.slice (some ad374) x6_1.length co20 : Value).ownBlock ∧ k_ ≠ gb373 ∧ k_ ≠ gb375)) k_ ∧ some k_ ≠ (u9 : Value).ownBlock)) (Kd.R_types (Kd.R_types (Kd.R_apart' (Kd.R_apart' (HO381.out) (Kd.N_typed HO_6.out) (by decide)) (Kd.N_typed HO_9.out) (by decide)) BK373.out (by decide)) BK375.out (by decide)) (fun k_ hk => ⟨⟨(.inr (hk.1.1.1.1)), ⟨hk.1.1.1.2, ⟨hk.1.2, hk.2⟩⟩⟩, hk.1.1.2⟩))))); (case aB => exact bB); (case aF => exact (fun k_ hk => ⟨(.inr (Nat.le_trans (below_size bB) hk)), Kd.fresh' (Kd.N_lt (by refine vN ?_; exact HO_6.out)) k_ hk, Kd.freshB (g := gb373) (o := .cells #[.int .u64 ((rd_T54 l0 x28_2).f0), .int .u64 ((rd_T54 l0 x28_2).f1)] 54 (0, 0)) (kB BK373.out) k_ hk, Kd.freshB (g := gb375) (o := .cells #[.int .u64 ((rd_T60 x6_1 x34_3).f0.f0), .int .u64 ((rd_T60 x6_1 x34_3).f0.f1), .slice A374_2 ((rd_T60 x6_1 x34_3).f1).length c374_2] 60 (0, 0)) (kB BK375.out) k_ hk⟩)); (case aO => exact (by refine vN ?_; exact Kd.N_mono HO_9.out (fun _ hk => ⟨hk.1.1, ⟨hk.1.2.1, ⟨hk.1.2.2.1, hk.1.2.2.2⟩⟩⟩))); (case aS => exact (below_size bB)); (case aL => have := LMc31.out; omega); intro v383 w40 ho hb hg hat; rw [← Ny382.out] at ho; replace HO_6 := zM (Kd.N_afterv (ok := (fun k_ => (P1_ k_ ∨ w.heap.size ≤ k_) ∧ some k_ ≠ (.slice Ao41 y379.length co41 : Value).ownBlock ∧ k_ ≠ gb373 ∧ k_ ≠ gb375)) (by refine vN ?_; exact Kd.N_mono HO_6.out (fun _ hk => ⟨⟨hk.1.1, ⟨hk.2, ⟨hk.1.2.2.1, hk.1.2.2.2⟩⟩⟩, hk.1.2.1⟩)) hg hat); replace BK373 := zM (blk_grown (g := gb373) (o := .cells #[.int .u64 ((rd_T54 l0 x28_2).f0), .int .u64 ((rd_T54 l0 x28_2).f1)] 54 (0, 0)) (kB BK373.out) hg (Kd.N_ne HO_9.out BK373.out (by decide))); replace HL374_2 := zM (Kd.V_afterv (ok := (fun k_ => (P1_ k_ ∨ w.heap.size ≤ k_) ∧ some k_ ≠ (.slice (some ad374) x6_1.length co20 : Value).ownBlock ∧ some k_ ≠ (.slice Ao41 y379.length co41 : Value).ownBlock ∧ k_ ≠ gb373 ∧ k_ ≠ gb375)) (by refine vV ?_; exact Kd.V_mono HL374_2.out (fun _ hk => ⟨⟨hk.1.1, ⟨hk.1.2.1, ⟨hk.2, ⟨hk.1.2.2.2.1, hk.1.2.2.2.2⟩⟩⟩⟩, hk.1.2.2.1⟩)) hg hat); replace BK375 := zM (blk_grown (g := gb375) (o := .cells #[.int .u64 ((rd_T60 x6_1 x34_3).f0.f0), .int .u64 ((rd_T60 x6_1 x34_3).f0.f1), .slice A374_2 ((rd_T60 x6_1 x34_3).f1).length c374_2] 60 (0, 0)) (kB BK375.out) hg (Kd.N_ne HO_9.out BK375.out (by decide))); replace HB := zM (hb); have HO384 := zM (ho); clear HO_9 HO381; clear ho hb hg hat))
                  go_roundg k3
                  case measure => have := HK1.out; have := HK2.out; have := HK3.out; omega
                  case rel => exact ⟨(y382), (true), (wrap64 (x34_3 + 1)), sR, sR, H', ⟨by have := HK1.out; have := HK2.out; have := HK3.out; omega⟩, ⟨by refine vN ?_; exact Kd.N_mono HO_6.out (fun _ hk => ⟨hk.1.1, ⟨hk.2, hk.1.2.2.1⟩⟩)⟩, ⟨by refine vN ?_; exact Kd.N_mono HO384.out (fun _ hk => ⟨hk.1, ⟨hk.2.1, hk.2.2.1⟩⟩)⟩, ⟨by refine kU ?_; exact BK373.out⟩, ⟨bB⟩⟩
                 ·rw [if_neg c31] at H
                  exact absurd H (by simp)
                ·rw [if_neg c30] at H
                 exact absurd H (by simp)
              ·rw [if_neg c24] at H
               have c24b0 : (((rd_T60 x6_1 x34_3).f0.f0) == ((rd_T54 l0 x28_2).f0) && (((rd_T60 x6_1 x34_3).f0.f1) == ((rd_T54 l0 x28_2).f1))) = false := by simpa using c24
               (try (have c24b1 : decide (((rd_T60 x6_1 x34_3).f0.f0) = ((rd_T54 l0 x28_2).f0) && (((rd_T60 x6_1 x34_3).f0.f1) == ((rd_T54 l0 x28_2).f1))) = false := by simpa using c24))
               (try (have c24b2 : (((rd_T60 x6_1 x34_3).f0.f0) == ((rd_T54 l0 x28_2).f0) && (((rd_T60 x6_1 x34_3).f0.f1) == ((rd_T54 l0 x28_2).f1))) = false := by simpa using c24))
               (try (have c24b3 : ¬ (((rd_T60 x6_1 x34_3).f0.f0) = ((rd_T54 l0 x28_2).f0) && (((rd_T60 x6_1 x34_3).f0.f1) == ((rd_T54 l0 x28_2).f1))) := by simpa using c24))
               clear c24
               have H' := zM H
               clear H
               have p374 : 0 ≤ (x34_3 : Int) := dA
               have q374 : x34_3 < (x6_1.length : Int) := dA
               obtain ⟨ad374, A374_2, c374_2, e374, hx374_0, hx374_1, hx374_2, hl374_2, hi374_2⟩ := at_T60 (Kd.N_reads' HO_6.out).2.2 x34_3 p374 q374
               cases e374
               obtain ⟨ce374, hce374, hMe374, hcc374⟩ := Kd.N_get HO_6.out z60 x34_3 p374 (by first | exact q374 | exact dA | (have e_ := (Kd.N_reads' HO_6.out).1; omega))
               obtain ⟨ua374_2, uc374_2, rfl, ul374_2, ge374_2⟩ := k60_openF hMe374
               have hv374_2 := hcc374 2 _ rfl
               rw [add_field _ _ 2 (by omega)] at hv374_2
               replace hv374_2 := Option.some.inj (hv374_2.symm.trans hx374_2)
               injection hv374_2 with hva_ hvn_ hvc_
               rw [hva_] at ge374_2
               rw [hvc_] at ul374_2
               have HL374_2 := zM (show Kd.V (Kd.int .u8) 5 _ w.heap.size _ _ ((rd_T60 x6_1 x34_3).f1) from Kd.V_mk ul374_2 ge374_2)
               clear hva_ hvn_ hvc_ ge374_2 ul374_2
               clear hcc374 hce374
               have HR374_2 := zM hi374_2
               have HC374_2 := zM hl374_2
               clear hi374_2 hl374_2
               replace p374 := eq_true p374
               replace q374 := eq_true q374
               go_wp2_with (first | ((with_reducible refine gate_dst (N := 14) rfl ?_); refine bx 14 #[.int .u64 0, .int .u64 0, .slice none 0 0] 60 ?_; intro gb375 hg w42 hbox hb; replace HO_6 := zM (Kd.N_below (Kd.N_elderB (by refine vN ?_; exact HO_6.out) gb375 (Nat.le_of_eq hg.symm)) hb); replace HO_9 := zM (Kd.N_below (Kd.N_elderB (by refine vN ?_; exact HO_9.out) gb375 (Nat.le_of_eq hg.symm)) hb); replace HL374_2 := zM (Kd.V_below (Kd.V_elderB (kV HL374_2.out) gb375 (Nat.le_of_eq hg.symm)) hb); replace HR374_2 := zM True.intro; have BK375 := zM (hbox); have GW375 := zM ((gB hg : w.heap.size ≤ gb375)); have GE375 := zM ((gB hg : w.heap.size ≤ gb375)); replace HB := zM (below_step bB hb); have NB373_375 := zM ((by rw [hg]; exact Nat.ne_of_lt (blk_lt (g := gb373) (o := .cells #[.int .u64 ((rd_T54 l0 x28_2).f0), .int .u64 ((rd_T54 l0 x28_2).f1)] 54 (0, 0)) (kB BK373.out)) : gb373 ≠ gb375)); have NB375_373 := zM ((by rw [hg]; exact Nat.ne_of_gt (blk_lt (g := gb373) (o := .cells #[.int .u64 ((rd_T54 l0 x28_2).f0), .int .u64 ((rd_T54 l0 x28_2).f1)] 54 (0, 0)) (kB BK373.out)) : gb375 ≠ gb373)); replace BK373 := zM (bK BK373 hb); clear hb hbox hg; have hnb43 := NB375_373.out; have hnc43 := NB373_375.out; obtain ⟨hcz44_0, hcz44_1, hcz44_2⟩ := h3 BK375; obtain ⟨hfz44_0, hfz44_1, hfz44_2⟩ := f3 BK375; obtain ⟨hcz45_0, hcz45_1⟩ := h2 BK373; obtain ⟨hfz45_0, hfz45_1⟩ := f2 BK373))
               go_roundg k3
               case measure => have := HK1.out; have := HK2.out; have := HK3.out; omega
               case rel => exact ⟨(x9_3), (x12_3), (wrap64 (x34_3 + 1)), sR, sR, H', ⟨by have := HK1.out; have := HK2.out; have := HK3.out; omega⟩, ⟨by refine vN ?_; exact Kd.N_mono (Kd.N_far (p := ⟨gb375, 2, none⟩) (Kd.N_far (p := ⟨gb375, 1, none⟩) (Kd.N_far (p := ⟨gb375, 0, none⟩) (Kd.N_mono HO_6.out (fun k_ hk => (⟨hk, hk.2⟩ : _ ∧ k_ ≠ gb375))) (fun _ hk => hk.2) (.int .u64 ((rd_T60 x6_1 x34_3).f0.f0))) (fun _ hk => hk.2) (.int .u64 ((rd_T60 x6_1 x34_3).f0.f1))) (fun _ hk => hk.2) (.slice A374_2 ((rd_T60 x6_1 x34_3).f1).length c374_2)) (fun _ hk => ⟨hk.1.1.1, ⟨hk.1.1.2.1, hk.1.1.2.2⟩⟩)⟩, ⟨by refine vN ?_; exact Kd.N_mono (Kd.N_far (p := ⟨gb375, 2, none⟩) (Kd.N_far (p := ⟨gb375, 1, none⟩) (Kd.N_far (p := ⟨gb375, 0, none⟩) (Kd.N_mono HO_9.out (fun k_ hk => (⟨hk, hk.2⟩ : _ ∧ k_ ≠ gb375))) (fun _ hk => hk.2) (.int .u64 ((rd_T60 x6_1 x34_3).f0.f0))) (fun _ hk => hk.2) (.int .u64 ((rd_T60 x6_1 x34_3).f0.f1))) (fun _ hk => hk.2) (.slice A374_2 ((rd_T60 x6_1 x34_3).f1).length c374_2)) (fun _ hk => ⟨hk.1.1.1, ⟨hk.1.1.2.1, hk.1.1.2.2⟩⟩)⟩, ⟨by refine kU ?_; refine blk_far ?_ NB373_375.out _; refine kU ?_; refine blk_far ?_ NB373_375.out _; refine kU ?_; refine blk_far ?_ NB373_375.out _; refine kU ?_; exact BK373.out⟩, ⟨bB⟩⟩
             ·rw [if_neg c23] at H
              exact absurd H (by simp)
            ·rw [if_neg c22] at H
             exact absurd H (by simp)
           ·rw [if_neg c21] at H
            have c21b0 : decide (x34_3 < (x6_1.length : Int)) = false := decide_eq_false c21
            clear c21
            by_cases c46 : x12_3 = true
            ·subst c46
             have H1 : (laws_growthHashes.l1 k3 x6_1 x9_3 l0 (l0.length : Int) (wrap64 (x28_2 + 1))) = some (r1, r2) := by rw [if_pos rfl] at H; exact H
             clear H
             have H := H1
             clear H1
             have H' := zM H
             clear H
             go_wp2
             go_roundg k3
             case measure => have := HK1.out; have := HK2.out; have := HK3.out; omega
             case rel => exact ⟨(x9_3), (wrap64 (x28_2 + 1)), sR, H', ⟨by have := HK1.out; have := HK2.out; have := HK3.out; omega⟩, ⟨by refine vN ?_; exact Kd.N_mono HO_6.out (fun _ hk => ⟨hk.1, hk.2.1⟩)⟩, ⟨by refine vN ?_; exact Kd.N_mono HO_9.out (fun _ hk => ⟨hk.1, hk.2.1⟩)⟩, ⟨bB⟩⟩
            ·replace c46 := Bool.eq_false_iff.mpr c46
             subst c46
             have H1 : (some (([] : List (List Int)), false)) = some (r1, r2) := by rw [if_neg (show ¬ (false = true) by decide)] at H; exact H
             clear H
             have H := H1
             clear H1
             simp only [Option.some.injEq, Prod.mk.injEq] at H
             obtain ⟨rfl, rfl⟩ := H
             go_wp2
             go_ret2
             exact ⟨(.slice none 0 0), by first | rfl | (simp [errW_none, errW_some] <;> rfl) | (simp [*, errW_none, errW_some] <;> rfl), by first | exact Kd.V_nil _ _ _ _ _ | exact Kd.R_nil _ _ _ _ _ | exact Kd.S_nil _ _ _ _ _ | exact Kd.N_nil _ _ _ _ _ | exact Kd.Q_nil _ _ _ _ _, bB⟩
        ·rw [if_neg c17] at H
         exact absurd H (by simp)
       ·rw [if_neg c16] at H
        exact absurd H (by simp)
      ·rw [if_neg c15] at H
       have c15b0 : decide (x28_2 < (l0.length : Int)) = false := decide_eq_false c15
       clear c15
       simp only [Option.some.injEq, Prod.mk.injEq] at H
       obtain ⟨rfl, rfl⟩ := H
       go_wp2
       go_ret2
       exact ⟨_, by first | rfl | (simp [errW_none, errW_some] <;> rfl) | (simp [*, errW_none, errW_some] <;> rfl), by refine vN ?_; exact Kd.N_mono HO_9.out (fun _ hk => hk.1), bB⟩
def impl_InclusionHashes.f (k : Nat) (a0_0 a0_1 a0_2 a0_3 a0_4 a0_5 : Int) (a1 a2 : Int) (l3 : List (List Int)) : Option (List (List Int) × Bool) :=
 (proof_Inclusion.f k a1 a2).bind fun n => if n.2.2.2.2.2.isNone = true then
  ((impl_texts.f k l3).bind fun l => if l.length = n.1.length ∧ 0 ≤ n.2.1 ∧ n.2.1 ≤ n.2.2.1 ∧ n.2.2.1 ≤ (l.length : Int) ∧ l.length < 1099511627776 then
   ((rhGo (fun l r => impl_toy_HashChildren.f k a0_0 a0_1 a0_2 a0_3 a0_4 a0_5 l r) n.2.1.toNat n.2.2.1.toNat (l.length + 1) 0 [] l).bind fun r => (impl_texts.f k r).bind fun r2 => some (r2, true)) else none)
  else some ([], false)
def HeldIH (gb gh : Nat) (A2 : Option Addr) (n c2 b e : Nat) (lv ix a0 a1 a2 a3 a4 a5 : Int) (w : World) : Prop :=
 (w.cell? ⟨gb, 0, none⟩ = some (.slice A2 n c2) ∧ w.cell? ⟨gb, 1, none⟩ = some (.int .i64 (b : Int)) ∧ w.cell? ⟨gb, 2, none⟩ = some (.int .i64 (e : Int)) ∧ w.cell? ⟨gb, 3, none⟩ = some (.int .u64 lv) ∧ w.cell? ⟨gb, 4, none⟩ = some (.int .u64 ix)) ∧
  w.cell? ⟨gh, 0, none⟩ = some (.int .i64 a0) ∧ w.cell? ⟨gh, 1, none⟩ = some (.int .i64 a1) ∧ w.cell? ⟨gh, 2, none⟩ = some (.int .i64 a2) ∧ w.cell? ⟨gh, 3, none⟩ = some (.int .u64 a3) ∧ w.cell? ⟨gh, 4, none⟩ = some (.int .u64 a4) ∧ w.cell? ⟨gh, 5, none⟩ = some (.int .u64 a5)
theorem HeldIH.below {gb gh : Nat} {A2 : Option Addr} {n c2 b e : Nat} {lv ix a0 a1 a2 a3 a4 a5 : Int} {w w' : World} {B : Nat} (h : HeldIH gb gh A2 n c2 b e lv ix a0 a1 a2 a3 a4 a5 w) (hb : Below B w w') (h1 : gb < B) (h2 : gh < B) : HeldIH gb gh A2 n c2 b e lv ix a0 a1 a2 a3 a4 a5 w' := by
 obtain ⟨⟨g0, g1, g2, g3, g4⟩, k0, k1, k2, k3, k4, k5⟩ := h
 refine ⟨⟨?_, ?_, ?_, ?_, ?_⟩, ?_, ?_, ?_, ?_, ?_, ?_⟩
 all_goals first
  | exact (hb.cell (p := ⟨gb, 0, none⟩) h1).trans g0 | exact (hb.cell (p := ⟨gb, 1, none⟩) h1).trans g1 | exact (hb.cell (p := ⟨gb, 2, none⟩) h1).trans g2 | exact (hb.cell (p := ⟨gb, 3, none⟩) h1).trans g3 | exact (hb.cell (p := ⟨gb, 4, none⟩) h1).trans g4
  | exact (hb.cell (p := ⟨gh, 0, none⟩) h2).trans k0 | exact (hb.cell (p := ⟨gh, 1, none⟩) h2).trans k1 | exact (hb.cell (p := ⟨gh, 2, none⟩) h2).trans k2 | exact (hb.cell (p := ⟨gh, 3, none⟩) h2).trans k3 | exact (hb.cell (p := ⟨gh, 4, none⟩) h2).trans k4 | exact (hb.cell (p := ⟨gh, 5, none⟩) h2).trans k5
theorem toy_funcI (v : Value) : IsFn Tryd.prog (.func (.func 52) #[v] #[]) 52 v := isFn_func Tryd.func52 (by kernel_rfl) rfl v
set_option maxHeartbeats 8000000 in
set_option maxRecDepth 100000 in
theorem impl_InclusionHashes.calls (k : Nat) (a0_0 a0_1 a0_2 a0_3 a0_4 a0_5 : Int) (a1 a2 : Int) (A3 : Option Addr) (c3 : Nat) (l3 : List (List Int)) (r1 : List (List Int)) (r2 : Bool) (w : World) (hT : TabOK w)
  (hr3 : Kd.C (Kd.slice 5 (Kd.int .u8)) w A3 l3.length l3) (hc3 : l3.length ≤ c3) (h : impl_InclusionHashes.f k a0_0 a0_1 a0_2 a0_3 a0_4 a0_5 a1 a2 l3 = some (r1, r2)) :
  Calls Tryd.prog 76 #[.agg #[.int .i64 a0_0, .int .i64 a0_1, .int .i64 a0_2, .int .u64 a0_3, .int .u64 a0_4, .int .u64 a0_5], .int .u64 a1, .int .u64 a2, .slice A3 l3.length c3] w fun e w' => ∃ v0_ : Value, e = .returned (.tuple #[v0_, .bool r2]) ∧ Kd.S (Kd.slice 5 (Kd.int .u8)) 27 w' w.heap.size (fun _ => True) v0_ r1 ∧ Below w.heap.size w w' := by
 have HTab := zM hT
 have HR3 := zM hr3
 have HC3 := zM hc3
 clear hT hr3 hc3
 unfold impl_InclusionHashes.f at h
 obtain ⟨⟨ids, b, e, lv, ix, er⟩, hn, h⟩ := Option.bind_eq_some_iff.mp h
 have HN := zM hn
 clear hn
 dsimp only at h
 obtain ⟨w1, hw1⟩ : ∃ w1, w1 = w.alloc (.cells #[.int .i64 a0_0, .int .i64 a0_1, .int .i64 a0_2, .int .u64 a0_3, .int .u64 a0_4, .int .u64 a0_5] 24) := ⟨_, rfl⟩
 have hb1 : Below w.heap.size w w1 := by rw [hw1]; exact below_alloc (Below.refl _ _) _
 have hk1 : w1.heap[w.heap.size]? = some (.cells #[.int .i64 a0_0, .int .i64 a0_1, .int .i64 a0_2, .int .u64 a0_3, .int .u64 a0_4, .int .u64 a0_5] 24 (0, 0)) := by rw [hw1]; exact blk_new w _
 have HB1 := zM hb1
 have HK1 := zM hk1
 have HT1 := zM (TabOK.below HTab.out hb1)
 clear hb1 hk1
 cases er with
 | some q =>
  simp only [Option.isNone_some, Bool.false_eq_true, if_false, Option.some.injEq, Prod.mk.injEq] at h
  obtain ⟨rfl, rfl⟩ := h
  go_enter Tryd.func76, Tryd.ntmps76
  go_upto_region 1 with (fail)
  rw [← hw1]
  clear hw1
  go_wp2_with (go_at_call 106; (with_reducible refine (proof_Inclusion.calls k a1 a2 ids b e lv ix (some q) w1 HT1.out HN.out).mono ?_); rintro e' w2 ⟨T_, X_, v2, rfl, hV2, hB2⟩; obtain ⟨A2, c2, rfl⟩ := Kd.V_slice hV2; have HB2 := zM (below_step HB1.out hB2); clear hV2 hB2; simp only [errW_some])
  go_ret2
  exact ⟨_, rfl, Kd.S_nil _ _ _ _ _, by repeat (first | exact HB2.out | apply below_alloc | refine Below.setCell ?_ (Nat.le_of_lt ?_) _)⟩
 | none =>
  simp only [Option.isNone_none, if_true] at h
  obtain ⟨l, hl, h⟩ := Option.bind_eq_some_iff.mp h
  by_cases c1 : l.length = ids.length ∧ 0 ≤ b ∧ b ≤ e ∧ e ≤ (l.length : Int) ∧ l.length < 1099511627776
  case neg => rw [if_neg c1] at h; exact absurd h (by simp)
  rw [if_pos c1] at h
  obtain ⟨e1, e2, e3, e4, e5⟩ := c1
  obtain ⟨b, rfl⟩ : ∃ n : Nat, b = (n : Int) := ⟨b.toNat, by omega⟩
  obtain ⟨e, rfl⟩ : ∃ n : Nat, e = (n : Int) := ⟨e.toNat, by omega⟩
  rw [Int.toNat_natCast, Int.toNat_natCast] at h
  obtain ⟨r, hr, h⟩ := Option.bind_eq_some_iff.mp h
  obtain ⟨q, hq, h⟩ := Option.bind_eq_some_iff.mp h
  simp only [Option.some.injEq, Prod.mk.injEq] at h
  obtain ⟨rfl, rfl⟩ := h
  have HL := zM hl
  have HRr := zM hr
  have HQ := zM hq
  have E1 := zM e1
  have E3 := zM (show b ≤ e by omega)
  have E4 := zM (show e ≤ l.length by omega)
  have E5 := zM e5
  clear hl hr hq e1 e2 e3 e4 e5
  go_enter Tryd.func76, Tryd.ntmps76
  go_upto_region 1 with (fail)
  rw [← hw1]
  clear hw1
  go_wp2_with (first
   | (go_at_call 106; (with_reducible refine (proof_Inclusion.calls k a1 a2 ids b e lv ix none w1 HT1.out HN.out).mono ?_); rintro e' w2 ⟨T_, X_, v2, rfl, hV2, hB2⟩; obtain ⟨A2, c2, rfl⟩ := Kd.V_slice hV2; have HB2 := zM (below_step HB1.out hB2); have HK2 := zM (blk_below HK1.out hB2); clear hV2 hB2; simp only [errW_none])
   | ((with_reducible refine gate_dst (N := 10) rfl ?_); refine bx 10 #[.slice none 0 0, .int .i64 0, .int .i64 0, .int .u64 0, .int .u64 0] 122 ?_; intro gb hg w3 hbox hb; have HB3 := zM (below_step HB2.out hb); have HK3 := zM (blk_below HK2.out hb); have BK := zM hbox; have GB := zM (show w.heap.size < gb from by rw [hg]; exact blk_lt HK2.out); have f0 := blk_frozen hbox 0; have g0 : w3.cell? ⟨gb, 0, none⟩ = some (.slice none 0 0) := (blk_cell hbox 0).trans rfl; have f1 := blk_frozen hbox 1; have g1 : w3.cell? ⟨gb, 1, none⟩ = some (.int .i64 0) := (blk_cell hbox 1).trans rfl; have f2 := blk_frozen hbox 2; have g2 : w3.cell? ⟨gb, 2, none⟩ = some (.int .i64 0) := (blk_cell hbox 2).trans rfl; have f3 := blk_frozen hbox 3; have g3 : w3.cell? ⟨gb, 3, none⟩ = some (.int .u64 0) := (blk_cell hbox 3).trans rfl; have f4 := blk_frozen hbox 4; have g4 : w3.cell? ⟨gb, 4, none⟩ = some (.int .u64 0) := (blk_cell hbox 4).trans rfl; clear hg hbox hb))
  clear f0 f1 f2 f3 f4 g0 g1 g2 g3 g4
  obtain ⟨w5, hw5⟩ : ∃ w5, w5 = ((((w3.setCell ⟨gb, 0, none⟩ (.slice A2 ids.length c2)).setCell ⟨gb, 1, none⟩ (.int .i64 (b : Int))).setCell ⟨gb, 2, none⟩ (.int .i64 (e : Int))).setCell ⟨gb, 3, none⟩ (.int .u64 lv)).setCell ⟨gb, 4, none⟩ (.int .u64 ix) := ⟨_, rfl⟩
  rw [← hw5]
  have K5 : w5.heap[gb]? = some (.cells #[.slice A2 ids.length c2, .int .i64 (b : Int), .int .i64 (e : Int), .int .u64 lv, .int .u64 ix] 122 (0, 0)) := by
   rw [hw5]
   exact blk_put (blk_put (blk_put (blk_put (blk_put BK.out 0 _ rfl) 1 _ rfl) 2 _ rfl) 3 _ rfl) 4 _ rfl
  have hgn : w.heap.size ≠ gb := Nat.ne_of_lt GB.out
  have KH : w5.heap[w.heap.size]? = some (.cells #[.int .i64 a0_0, .int .i64 a0_1, .int .i64 a0_2, .int .u64 a0_3, .int .u64 a0_4, .int .u64 a0_5] 24 (0, 0)) := by
   rw [hw5]
   exact blk_far (blk_far (blk_far (blk_far (blk_far HK3.out hgn _) hgn _) hgn _) hgn _) hgn _
  have hB5 : Below w.heap.size w w5 := by
   rw [hw5]
   have := Nat.le_of_lt GB.out
   exact ((((HB3.out.setCell this _).setCell this _).setCell this _).setCell this _).setCell this _
  clear hw5 hgn
  have HB5 := zM hB5
  have HKg := zM K5
  have HKh := zM KH
  have HC5 := zM (Kd.C_below HR3.out hB5)
  have hgl := blk_lt K5
  have hhl := blk_lt KH
  generalize hgw : w.heap.size = gh at *
  have HGW := zM hgw
  clear hgw
  have g0 := (blk_cell K5 0).trans rfl
  have g1 : w5.cell? ⟨gb, 1, none⟩ = some (.int .i64 (b : Int)) := (blk_cell K5 1).trans rfl
  have g2 : w5.cell? ⟨gb, 2, none⟩ = some (.int .i64 (e : Int)) := (blk_cell K5 2).trans rfl
  have g3 : w5.cell? ⟨gb, 3, none⟩ = some (.int .u64 lv) := (blk_cell K5 3).trans rfl
  have g4 : w5.cell? ⟨gb, 4, none⟩ = some (.int .u64 ix) := (blk_cell K5 4).trans rfl
  have h0 : w5.cell? ⟨gh, 0, none⟩ = some (.int .i64 a0_0) := (blk_cell KH 0).trans rfl
  have h1 : w5.cell? ⟨gh, 1, none⟩ = some (.int .i64 a0_1) := (blk_cell KH 1).trans rfl
  have h2 : w5.cell? ⟨gh, 2, none⟩ = some (.int .i64 a0_2) := (blk_cell KH 2).trans rfl
  have h3 : w5.cell? ⟨gh, 3, none⟩ = some (.int .u64 a0_3) := (blk_cell KH 3).trans rfl
  have h4 : w5.cell? ⟨gh, 4, none⟩ = some (.int .u64 a0_4) := (blk_cell KH 4).trans rfl
  have h5 : w5.cell? ⟨gh, 5, none⟩ = some (.int .u64 a0_5) := (blk_cell KH 5).trans rfl
  replace g0 : w5.cell? ⟨gb, 0, none⟩ = some (.slice A2 ids.length c2) := g0
  have hmf : ∀ (fn : Fn) (first cap : Array Value) (w : World), (Instr.makeFunc fn first cap).run Tryd.prog w = .ok (.func fn first cap) w := fun _ _ _ _ => rfl
  clear K5 KH hB5
  have HGL := zM hgl
  have HHL := zM hhl
  clear hgl hhl
  have hS : HeldIH gb gh A2 ids.length c2 b e lv ix a0_0 a0_1 a0_2 a0_3 a0_4 a0_5 w5 := ⟨⟨g0, g1, g2, g3, g4⟩, h0, h1, h2, h3, h4, h5⟩
  have HS := zM hS
  clear hS
  go_region_held3 (fun w' => (w'.cell? ⟨gb, 0, none⟩ = some (.slice A2 ids.length c2) ∧ w'.cell? ⟨gb, 1, none⟩ = some (.int .i64 (b : Int)) ∧ w'.cell? ⟨gb, 2, none⟩ = some (.int .i64 (e : Int)) ∧ w'.cell? ⟨gb, 3, none⟩ = some (.int .u64 lv) ∧ w'.cell? ⟨gb, 4, none⟩ = some (.int .u64 ix)) ∧ w'.cell? ⟨gh, 0, none⟩ = some (.int .i64 a0_0) ∧ w'.cell? ⟨gh, 1, none⟩ = some (.int .i64 a0_1) ∧ w'.cell? ⟨gh, 2, none⟩ = some (.int .i64 a0_2) ∧ w'.cell? ⟨gh, 3, none⟩ = some (.int .u64 a0_3) ∧ w'.cell? ⟨gh, 4, none⟩ = some (.int .u64 a0_4) ∧ w'.cell? ⟨gh, 5, none⟩ = some (.int .u64 a0_5)) (first | exact HS7.out | exact HS6.out | go_keep)
   (first
    | (go_at_call 46; (with_reducible refine (impl_texts.calls k A3 c3 l3 l _ ?side1 HC3.out HL.out).mono ?_); (case side1 => first | exact HC5.out | exact Kd.C_drew HC5.out | exact Kd.C_drewN HC5.out _); rintro e' w6 ⟨v6, rfl, hS6, hB6⟩; have hb6 : Below w5.heap.size w5 w6 := (by first | exact hB6 | exact below_step (below_drew (Below.refl _ _)) hB6 | exact below_step (pw_below_drewN (Below.refl _ _) _) hB6); have HB6 := zM hb6; have HS6 := zM (HS.out.below hb6 HGL.out HHL.out); have HR6 := zM (show (Kd.slice 5 (Kd.int .u8)).R 27 w6 w5.heap.size (fun _ => True) v6 l from Kd.S_R hS6); clear hS6 hB6 hb6)
    | (go_at_call 71; (with_reducible refine (proof_Nodes_Rehash.any k a0_0 a0_1 a0_2 a0_3 a0_4 a0_5 _ (toy_funcI _) w5.heap.size A2 ids.length c2 b e lv ix v6 l r _ ?side1 ?side2 E1.out.symm E3.out E4.out E5.out HRr.out).mono ?_); (case side1 => first | exact HR6.out | exact Kd.R_drew HR6.out | exact Kd.R_drewN HR6.out _); (case side2 => exact HB6.out.size); rintro e' w7 ⟨v7, rfl, hR7, hB7⟩; obtain ⟨A7, c7, rfl⟩ := Kd.R_slice hR7; have hb7 : Below w5.heap.size w5 w7 := (by first | exact HB6.out.trans hB7 | exact (below_drew HB6.out).trans hB7 | exact (pw_below_drewN HB6.out _).trans hB7); have HB7 := zM hb7; have HS7 := zM (HS.out.below hb7 HGL.out HHL.out); have HR7 := zM hR7; clear hR7 hB7 hb7))
  all_goals
   go_wp2
   go_region_held3 (fun _ => True) (trivial)
    ((go_at_call 46; (with_reducible refine (impl_texts.calls k A7 c7 r q _ ?side1 ?side2 HQ.out).mono ?_); (case side1 => first | exact (Kd.R_reads' HR7.out).2.2 | exact Kd.C_drew (Kd.R_reads' HR7.out).2.2 | exact Kd.C_drewN (Kd.R_reads' HR7.out).2.2 _); (case side2 => exact (Kd.R_reads' HR7.out).2.1); rintro e' w8 ⟨v8, rfl, hS8, hB8⟩; have hb8 : Below w7.heap.size w7 w8 := (by first | exact hB8 | exact below_step (below_drew (Below.refl _ _)) hB8 | exact below_step (pw_below_drewN (Below.refl _ _) _) hB8); have HB8 := zM (HB7.out.trans (hb8.mono HB7.out.size)); have HS8 := zM (show Kd.S (Kd.slice 5 (Kd.int .u8)) 27 w8 w7.heap.size (fun _ => True) v8 q from hS8); clear hS8 hB8 hb8))
   all_goals
    go_wp2
    go_ret2
    have hgw := HGW.out
    subst hgw
    have h5 := HB5.out.size
    have h7 := HB7.out.size
    refine ⟨_, rfl, ?_, ?_⟩
    ·first
      | exact Kd.S_lower HS8.out (Nat.le_trans h5 h7)
      | exact Kd.S_drew (Kd.S_lower HS8.out (Nat.le_trans h5 h7))
      | exact Kd.S_drewN (Kd.S_lower HS8.out (Nat.le_trans h5 h7)) _
    ·first
      | exact HB5.out.trans (HB8.out.mono h5)
      | exact below_drew (HB5.out.trans (HB8.out.mono h5))
      | exact pw_below_drewN (HB5.out.trans (HB8.out.mono h5)) _
end Go.Proofs.YtkmdkmlgahfcpaaDoor.M
