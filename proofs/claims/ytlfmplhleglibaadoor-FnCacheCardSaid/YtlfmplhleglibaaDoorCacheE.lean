/- The cache's tree: InsertInvertedMatrix. -/
import Derived.Test.YtlfmplhleglibaaDoorCacheD
namespace Go.Proofs.YtlfmplhleglibaaDoor.M
open Go Go.RowKit Go.Proofs.YtlfmplhleglibaaDoorW.PrintWords Go.Proofs.YtlfmplhleglibaaDoorW.PrintLast Go.Proofs.YtlfmplhleglibaaDoorW.PrintMore
set_option linter.unusedVariables false
set_option linter.unusedSimpArgs false
/-- What an Insert leaves. -/
def InsPost (B sh gt : Nat) (T : List Nat → Option CNd) (q : List Nat) (sq : Bool) (m : List (List Int)) (W : World) (e : Ending) (w' : World) : Prop :=
  ∃ (ev : Value) (T' : List Nat → Option CNd), e = .returned ev ∧ Cache B w' sh T' ∧ Root T' gt ∧ Below B W w' ∧ CKeep W w' ∧
    (if q ≠ [] ∧ sq = true then ev = .nilIface ∧ ∀ s, lookM T' s = if s = q then m else lookM T s else (∃ t x, ev = .iface t x) ∧ ∀ s, lookM T' s = lookM T s)
set_option maxHeartbeats 1000000 in
set_option maxRecDepth 100000 in
theorem treeInsert.calls {B sh gt : Nat} {T : List Nat → Option CNd} {W : World} {m : List (List Int)} {sq : Bool} (hTab : TabOK W) (hC : Cache B W sh T) (hR : Root T gt) (hB : B ≤ W.heap.size) (hsh : sh ≤ 100000) (q : List Nat) (A Am : Option Addr) (c cm : Nat) (hq : ris sh 0 q)
    (hI : q ≠ [] → ∃ (gi : Nat) (ci : Array Value), W.heap[gi]? = some (.cells ci 3 (0, 0)) ∧ Kd.F (Kd.int .i64) W (fun k => k = gi) A (nums q).length (nums q)) (hc : (nums q).length ≤ c) (hl : q.length < 100000) (hv : rowsK.R 32 W B (fun _ => True) (.slice Am m.length cm) m) (hsq : reedsolomon_matrix_IsSquare.f m = some sq) :
    Calls Tryd.prog 18 #[.pointer (some ⟨gt, 0, none⟩), .slice A (nums q).length c, .slice Am m.length cm, .int .i64 (sh : Int)] W (InsPost B sh gt T q sq m W) := by
  have hmn : m ≠ [] := fun h => by
    rw [h] at hsq
    unfold reedsolomon_matrix_IsSquare.f at hsq
    rw [if_neg (by simp)] at hsq
    cases hsq
  obtain ⟨t0, x0, g0⟩ := hTab.er 0 (by decide)
  cases q with
  | nil =>
    have hn : (nums []).length = 0 := rfl
    rw [hn]
    have HC := Aside0.mk hC
    clear hTab hC hn hI hq hc hv hsq
    go_enter Tryd.func18, Tryd.ntmps18
    go_wp2
    go_ret
    refine ⟨_, T, rfl, HC.out, hR, Below.refl _ _, CKeep.refl _, ?_⟩
    rw [if_neg (fun h => h.1 rfl)]
    exact ⟨⟨_, _, rfl⟩, fun s => rfl⟩
  | cons i q =>
    have hlen : (nums (i :: q)).length = q.length + 1 := by simp [nums]
    have n1 : ¬ ((q.length + 1 : Nat) : Int) = 0 := by omega
    have n2 : (((q.length + 1 : Nat) : Int) == 0) = false := by rw [beq_eq_false_iff_ne]; exact n1
    have HC := Aside0.mk hC
    have HV := Aside0.mk hv
    have HRM := Aside0.mk (show m.length ≤ cm ∧ Kd.C (Kd.slice 5 (Kd.int .u8)) W Am m.length m from (Kd.R_reads' hv).2)
    have HSQ := Aside0.mk hsq
    have HTB := Aside0.mk hTab
    have HI := Aside0.mk (hI (by simp))
    have HRT := Aside0.mk hR
    rw [hlen]
    cases sq with
    | false =>
      clear hTab hC hI hv hsq hR g0
      go_enter Tryd.func18, Tryd.ntmps18
      go_upto_region 6 with (go_at_call 24; (with_reducible refine (reedsolomon_matrix_IsSquare.calls Am cm m false _ HRM.out.2 HRM.out.1 HSQ.out).mono ?_); rintro e' w1 ⟨rfl, ⟨nd, rfl⟩⟩)
      have HB1 := Aside0.mk (pw_below_drewN (Below.refl W.heap.size W) nd)
      generalize W.drewN nd = w1 at *
      obtain ⟨t1, x1, g1⟩ := (HTB.out.below HB1.out).er 1 (by decide)
      go_wp2
      go_ret
      refine ⟨_, T, rfl, HC.out.below HB1.out, HRT.out, HB1.out.mono hB, (CKeep.refl W).below HB1.out, ?_⟩
      rw [if_neg (fun h => by cases h.2)]
      exact ⟨⟨_, _, rfl⟩, fun s => rfl⟩
    | true =>
      clear hTab hC hI hv hsq hR g0
      go_enter Tryd.func18, Tryd.ntmps18
      go_upto_region 7 with (go_at_call 24; (with_reducible refine (reedsolomon_matrix_IsSquare.calls Am cm m true _ HRM.out.2 HRM.out.1 HSQ.out).mono ?_); rintro e' w1 ⟨rfl, ⟨nd, rfl⟩⟩)
      have HB1 := Aside0.mk (pw_below_drewN (Below.refl W.heap.size W) nd)
      generalize W.drewN nd = w1 at *
      obtain ⟨r, hr, rfl⟩ := HRT.out
      obtain ⟨gi, ci, hgi, hF⟩ := HI.out
      have hrec := insertInverted.calls hsh hmn q i [] r T w1 A c (.slice Am m.length cm) (HC.out.below HB1.out) (Nat.le_trans hB HB1.out.size) hr hq ⟨gi, ci, blk_below hgi HB1.out, Kd.F_below hF HB1.out⟩ hc (by rw [List.length_cons] at hl; omega) (Kd.R_below HV.out HB1.out)
      rw [show ((cPar [] : Nat) : Int) = 0 from rfl, show ([] : List Nat) ++ i :: q = i :: q from rfl, hlen] at hrec
      have HREC := Aside0.mk hrec
      have HRR := Aside0.mk hr
      clear hrec hgi hF hr hlen hc
      go_wp2_with (go_at_call 25; (with_reducible refine HREC.out.mono ?_); rintro e' w2 ⟨rfl, hpost⟩; have HP := Aside0.mk hpost; clear hpost)
      go_ret
      obtain ⟨T', p1, p2, p3, p4, p5⟩ := HP.out
      refine ⟨_, T', rfl, p1, p3 [] r HRR.out, (HB1.out.mono hB).trans p4, ((CKeep.refl W).below HB1.out).trans p5, ?_⟩
      rw [if_pos ⟨by simp, rfl⟩]
      exact ⟨rfl, p2⟩
end Go.Proofs.YtlfmplhleglibaaDoor.M
