/- The cache's tree: the insertion, walked. -/
import Derived.Test.YtlfmplhleglibaaDoorCacheB
namespace Go.Proofs.YtlfmplhleglibaaDoor.M
open Go Go.RowKit Go.Proofs.YtlfmplhleglibaaDoorW.PrintWords Go.Proofs.YtlfmplhleglibaaDoorW.PrintLast Go.Proofs.YtlfmplhleglibaaDoorW.PrintMore
set_option linter.unusedVariables false
set_option linter.unusedSimpArgs false
/-- What an insertion keeps: every block of another type. -/
def CKeep (W W' : World) : Prop := W.heap.size ≤ W'.heap.size ∧ ∀ (k t : Nat) (cs : Array Value), W.heap[k]? = some (.cells cs t (0, 0)) → t ≠ 61 → t ≠ 52 → t ≠ 54 → W'.heap[k]? = some (.cells cs t (0, 0))
theorem CKeep.refl (W : World) : CKeep W W := ⟨Nat.le_refl _, fun _ _ _ h _ _ _ => h⟩
theorem CKeep.trans {W W1 W2 : World} (h1 : CKeep W W1) (h2 : CKeep W1 W2) : CKeep W W2 := ⟨Nat.le_trans h1.1 h2.1, fun k t cs h a b c => h2.2 k t cs (h1.2 k t cs h a b c) a b c⟩
theorem CKeep.below {W W1 W2 : World} (h1 : CKeep W W1) (h2 : Below W1.heap.size W1 W2) : CKeep W W2 := ⟨Nat.le_trans h1.1 h2.size, fun k t cs h a b c => blk_below (h1.2 k t cs h a b c) h2⟩
theorem CKeep.put {W : World} {g t : Nat} {cs : Array Value} (hG : W.heap[g]? = some (.cells cs t (0, 0))) (ht : t = 61 ∨ t = 52 ∨ t = 54) (j : Nat) (u : Value) : CKeep W (W.setCell ⟨g, j, none⟩ u) :=
  ⟨Nat.le_of_eq (by simp [World.setCell]), fun k t' cs' h a b c => blk_far h (fun he => by
    have he : k = g := he
    subst he
    rw [hG] at h
    injection h with h
    injection h with _ h _
    subst h
    rcases ht with ht | ht | ht
    · exact a ht
    · exact b ht
    · exact c ht) _⟩
theorem CKeep.R {α : Type} {d : Kd α} {e base : Nat} {ok : Nat → Prop} {W W' : World} {v : Value} {xs : List α} (hk : CKeep W W') (h : d.R e W base ok v xs) (ht : ∀ q, q ∈ e :: d.E → q ≠ 61 ∧ q ≠ 52 ∧ q ≠ 54) : d.R e W' base ok v xs :=
  Kd.R_mono (Kd.R_move (Kd.R_bound h) (fun k hb => by
    obtain ⟨_, _, _, q, hq, cells, hc⟩ := hb
    obtain ⟨a, b, c⟩ := ht q hq
    rw [hc]
    exact hk.2 k q cells hc a b c)) (fun _ hb => hb.1)
theorem lookM_new {T : List Nat → Option CNd} {n : List Nat} (g c : Nat) (v : Value) (hT : T n = none) (s : List Nat) : lookM (cUpd T n ⟨g, c, v, []⟩) s = lookM T s := by
  unfold lookM
  by_cases e : s = n
  · rw [e, cUpd_same, hT]
  · rw [cUpd_ne _ e]
theorem lookM_set {T : List Nat → Option CNd} {n : List Nat} (g c : Nat) (v : Value) (m : List (List Int)) (s : List Nat) : lookM (cUpd T n ⟨g, c, v, m⟩) s = if s = n then m else lookM T s := by
  unfold lookM
  by_cases e : s = n
  · rw [e, cUpd_same, if_pos rfl]
  · rw [cUpd_ne _ e, if_neg e]
theorem made_one (z : Value) (n : Nat) : madeCells #[z] n = Array.replicate n z := by
  unfold madeCells
  apply Array.ext
  · simp
  · intro i h1 h2
    simp [Nat.mod_one]
theorem info_ptr : (Tryd.prog.info? 61).map (fun i => (i.zero, i.size, i.bytes)) = some (some (.pointer none), 1, 8) := by kernel_rfl
theorem make_ptrs (n : Nat) (hn : n ≤ 100000) (W : World) : (Instr.makeSlice 50 (.int .i64 (n : Int)) (.int .i64 (n : Int))).run Tryd.prog W = .ok (.slice (some ⟨W.heap.size, 0, none⟩) n n) (W.alloc (rowO n)) := by
  obtain ⟨i0, hi0, hz0⟩ := Option.map_eq_some_iff.1 info_ptr
  simp only [Prod.mk.injEq] at hz0
  obtain ⟨h1, h2, h3⟩ := hz0
  have := run_make (P := Tryd.prog) W 50 61 i0 (.pointer none) Tryd.underlying50 hi0 h1 .i64 .i64 (n : Int) (n : Int) (Int.natCast_nonneg n) (Int.le_refl _) (by rw [h3]; omega) (by omega)
  rw [h2, Int.toNat_natCast, Nat.mul_one, show (Value.pointer none).cells = #[Value.pointer none] from rfl, made_one] at this
  exact this
set_option maxHeartbeats 1000000 in
set_option maxRecDepth 100000 in
theorem insertInverted.calls {B sh : Nat} (hsh : sh ≤ 100000) {m : List (List Int)} (hm : m ≠ []) : ∀ (q : List Nat) (i : Nat) (p : List Nat) (r : CNd) (T : List Nat → Option CNd) (W : World) (A : Option Addr) (c : Nat) (v : Value), Cache B W sh T → B ≤ W.heap.size → T p = some r → ris sh (cPar p) (i :: q) →
    (∃ (gi : Nat) (ci : Array Value), W.heap[gi]? = some (.cells ci 3 (0, 0)) ∧ Kd.F (Kd.int .i64) W (fun k => k = gi) A (nums (i :: q)).length (nums (i :: q))) → (nums (i :: q)).length ≤ c → q.length < 100000 → rowsK.R 32 W B (fun _ => True) v m →
    Calls Tryd.prog 25 #[.pointer (some ⟨r.g, 0, none⟩), .slice A (nums (i :: q)).length c, v, .int .i64 (sh : Int), .int .i64 (cPar p : Int)] W fun e w' => e = .returned (.tuple #[]) ∧
      ∃ T', Cache B w' sh T' ∧ (∀ s, lookM T' s = if s = p ++ i :: q then m else lookM T s) ∧ (∀ s x, T s = some x → ∃ x', T' s = some x' ∧ x'.g = x.g) ∧ Below B W w' ∧ CKeep W w' := by
  intro q
  induction q with
  | nil =>
    intro i p r T W A c v hC hB hp hr hI hc hq hv
    obtain ⟨Av, cv, rfl⟩ := Kd.R_slice hv
    obtain ⟨h1, h2, hr2⟩ := hr
    have hlow := cLow_le p
    obtain ⟨gi, ci, hgi, hF⟩ := hI
    obtain ⟨ad, rfl, hx⟩ := Kd.at_int (Kd.F_now hF) 0 (Int.le_refl _) (by simp [nums])
    obtain ⟨_, hG⟩ := hC.nd p r hp
    obtain ⟨hrB, cs, hR, hsz, hcs⟩ := hC.ch p r hp
    have hx0 : W.cell? ad = some (.int .i64 (i : Int)) := by rw [show ad.add (0 : Int).toNat = ad from Addr.add_zero' _] at hx; exact hx
    have g1 : W.cell? ⟨r.g, 1, none⟩ = some (.slice (some ⟨r.c, 0, none⟩) (sh - cLow p) (sh - cLow p)) := (blk_cell hG 1).trans rfl
    have hj := hcs (i - cPar p) (by omega)
    rw [show cPar p + (i - cPar p) = i by omega] at hj
    have c1 : W.cell? ⟨r.c, i - cPar p, none⟩ = some (ptrV (T (p ++ [i]))) := (blk_cell hR _).trans hj
    have e1 : IntKind.i64.wrap ((i : Int) - (cPar p : Int)) = ((i - cPar p : Nat) : Int) := by rw [IntKind.wrap_i64]; omega
    have e2 : IntKind.i64.wrap ((sh : Int) - (i : Int)) = ((sh - i : Nat) : Int) := by rw [IntKind.wrap_i64]; omega
    have n2 : ((i - cPar p : Nat) : Int) < ((sh - cLow p : Nat) : Int) := by omega
    have n3 : (0 : Int) ≤ ((i - cPar p : Nat) : Int) := Int.natCast_nonneg _
    have n6 : (nums [i]).length = 1 := by simp [nums]
    rw [n6]
    cases hT : T (p ++ [i]) with
    | none =>
      rw [hT] at c1
      have c2 : W.cell? ⟨r.c, i - cPar p, none⟩ = some (.pointer none) := c1
      have hmk := make_ptrs (sh - i) (by omega)
      have HC1 := Aside0.mk (show Cache B (((W.alloc (rowO (sh - i))).alloc (.cells #[.slice none 0 0, .slice (some ⟨W.heap.size, 0, none⟩) (sh - i) (sh - i)] 52)).setCell ⟨r.c, i - cPar p, none⟩ (.pointer (some ⟨W.heap.size + 1, 0, none⟩))) sh _ from cache_new hC hp h1 h2 hT hB)
      have HB3 := Aside0.mk (show Below W.heap.size W ((W.alloc (rowO (sh - i))).alloc (.cells #[.slice none 0 0, .slice (some ⟨W.heap.size, 0, none⟩) (sh - i) (sh - i)] 52)) from below_alloc (below_alloc (Below.refl _ _) _) _)
      have HV := Aside0.mk hv
      have HR := Aside0.mk hR
      have HG := Aside0.mk hG
      have HGI := Aside0.mk hgi
      have HF := Aside0.mk hF
      have HTT := Aside0.mk hT
      have HBB := Aside0.mk hB
      have HRB := Aside0.mk hrB
      clear c1 hC hj hcs hx hv hR hG hgi hF hB hrB hp
      go_enter Tryd.func25, Tryd.ntmps25
      go_upto_region 4 with (fail)
      generalize (W.alloc (rowO (sh - i))).alloc (.cells #[.slice none 0 0, .slice (some ⟨W.heap.size, 0, none⟩) (sh - i) (sh - i)] 52) = w3 at *
      clear g1 c2
      have g1 : w3.cell? ⟨r.g, 1, none⟩ = some (.slice (some ⟨r.c, 0, none⟩) (sh - cLow p) (sh - cLow p)) := (blk_cell (blk_below HG.out HB3.out) 1).trans rfl
      have hR3 := blk_below HR.out HB3.out
      have HR3 := Aside0.mk hR3
      have f1 := blk_frozen hR3 (i - cPar p)
      obtain ⟨u0, c2⟩ : ∃ u0, w3.cell? ⟨r.c, i - cPar p, none⟩ = some u0 := ⟨_, (blk_cell hR3 _).trans (Array.getElem?_eq_getElem (by omega))⟩
      clear hR3
      go_upto_region 5 with (fail)
      have HK4 := Aside0.mk (((CKeep.refl W).below HB3.out).trans (CKeep.put HR3.out (.inl rfl) (i - cPar p) (.pointer (some ⟨W.heap.size + 1, 0, none⟩))))
      have HB4 := Aside0.mk (show Below B W (w3.setCell ⟨r.c, i - cPar p, none⟩ (.pointer (some ⟨W.heap.size + 1, 0, none⟩))) from (HB3.out.mono HBB.out).setCell HRB.out _)
      clear g1 c2 f1
      generalize w3.setCell ⟨r.c, i - cPar p, none⟩ (.pointer (some ⟨W.heap.size + 1, 0, none⟩)) = w4 at *
      have hl1 : ∀ s, lookM (cUpd T (p ++ [i]) ⟨W.heap.size + 1, W.heap.size, .slice none 0 0, []⟩) s = lookM T s := fun s => lookM_new _ _ _ HTT.out s
      have hx1 : ∀ s x, T s = some x → ∃ x', cUpd T (p ++ [i]) ⟨W.heap.size + 1, W.heap.size, .slice none 0 0, []⟩ s = some x' ∧ x'.g = x.g := fun s x hs => ⟨x, (cUpd_ne _ (fun h => by rw [h, HTT.out] at hs; cases hs)).trans hs, rfl⟩
      have hn := cUpd_same T (p ++ [i]) ⟨W.heap.size + 1, W.heap.size, .slice none 0 0, []⟩
      generalize cUpd T (p ++ [i]) ⟨W.heap.size + 1, W.heap.size, .slice none 0 0, []⟩ = T1 at *
      have HL1 := Aside0.mk hl1
      have HX1 := Aside0.mk hx1
      clear hl1 hx1
      have hG4 := (HC1.out.nd _ _ hn).2
      have HG4 := Aside0.mk hG4
      have HN := Aside0.mk hn
      have HGB := Aside0.mk (HC1.out.nd _ _ hn).1
      have k0 := (blk_cell hG4 0).trans (show _ = some _ from rfl)
      have k1 := blk_frozen hG4 0
      clear hG4 hn
      go_wp2
      go_end0
      refine ⟨rfl, _, cache_set HC1.out HN.out (HK4.out.R HV.out (by decide)) hm, fun s => ?_, fun s x hs => ?_, ?_, ?_⟩
      · rw [lookM_set, HL1.out]
      · obtain ⟨x1, hx1, hg1⟩ := HX1.out s x hs
        by_cases e : s = p ++ [i]
        · subst e
          rw [HN.out] at hx1
          obtain rfl := Option.some.inj hx1
          exact ⟨_, cUpd_same _ _ _, hg1⟩
        · exact ⟨x1, (cUpd_ne _ e).trans hx1, hg1⟩
      · exact Below.setCell HB4.out HGB.out _
      · exact HK4.out.trans (CKeep.put HG4.out (.inr (.inl (cTy_snoc p i))) 0 _)
    | some s =>
      rw [hT] at c1
      have c2 : W.cell? ⟨r.c, i - cPar p, none⟩ = some (.pointer (some ⟨s.g, 0, none⟩)) := c1
      have HC := Aside0.mk hC
      have HV := Aside0.mk hv
      have HGI := Aside0.mk hgi
      have HF := Aside0.mk hF
      have HBB := Aside0.mk hB
      have hn := hT
      clear c1 hC hj hcs hx hv hR hG hgi hF hB hrB hT hp
      have hG4 := (HC.out.nd _ _ hn).2
      have HG4 := Aside0.mk hG4
      have HN := Aside0.mk hn
      have HGB := Aside0.mk (HC.out.nd _ _ hn).1
      have k0 := (blk_cell hG4 0).trans (show _ = some _ from rfl)
      have k1 := blk_frozen hG4 0
      clear hG4 hn
      go_enter Tryd.func25, Tryd.ntmps25
      go_wp2
      go_end0
      refine ⟨rfl, _, cache_set HC.out HN.out HV.out hm, fun s => ?_, fun s x hs => ?_, ?_, ?_⟩
      · rw [lookM_set]
      · obtain ⟨x1, hx1, hg1⟩ : ∃ x1, T s = some x1 ∧ x1.g = x.g := ⟨x, hs, rfl⟩
        by_cases e : s = p ++ [i]
        · subst e
          rw [HN.out] at hx1
          obtain rfl := Option.some.inj hx1
          exact ⟨_, cUpd_same _ _ _, hg1⟩
        · exact ⟨x1, (cUpd_ne _ e).trans hx1, hg1⟩
      · exact Below.setCell (Below.refl _ _) HGB.out _
      · exact (CKeep.refl _).trans (CKeep.put HG4.out (.inr (.inl (cTy_snoc p i))) 0 _)
  | cons i2 q ih =>
    intro i p r T W A c v hC hB hp hr hI hc hq hv
    obtain ⟨Av, cv, rfl⟩ := Kd.R_slice hv
    obtain ⟨h1, h2, hr2⟩ := hr
    have hlow := cLow_le p
    obtain ⟨gi, ci, hgi, hF⟩ := hI
    rw [List.length_cons] at hq
    have hlen : (nums (i :: i2 :: q)).length = q.length + 2 := by simp [nums]
    have hlen2 : (nums (i2 :: q)).length = q.length + 1 := by simp [nums]
    obtain ⟨ad, rfl, hx⟩ := Kd.at_int (Kd.F_now hF) 0 (Int.le_refl _) (by rw [hlen]; omega)
    obtain ⟨_, hG⟩ := hC.nd p r hp
    obtain ⟨hrB, cs, hR, hsz, hcs⟩ := hC.ch p r hp
    have hx0 : W.cell? ad = some (.int .i64 (i : Int)) := by rw [show ad.add (0 : Int).toNat = ad from Addr.add_zero' _] at hx; exact hx
    have g1 : W.cell? ⟨r.g, 1, none⟩ = some (.slice (some ⟨r.c, 0, none⟩) (sh - cLow p) (sh - cLow p)) := (blk_cell hG 1).trans rfl
    have hj := hcs (i - cPar p) (by omega)
    rw [show cPar p + (i - cPar p) = i by omega] at hj
    have c1 : W.cell? ⟨r.c, i - cPar p, none⟩ = some (ptrV (T (p ++ [i]))) := (blk_cell hR _).trans hj
    have e1 : IntKind.i64.wrap ((i : Int) - (cPar p : Int)) = ((i - cPar p : Nat) : Int) := by rw [IntKind.wrap_i64]; omega
    have e2 : IntKind.i64.wrap ((sh : Int) - (i : Int)) = ((sh - i : Nat) : Int) := by rw [IntKind.wrap_i64]; omega
    have n2 : ((i - cPar p : Nat) : Int) < ((sh - cLow p : Nat) : Int) := by omega
    have n3 : (0 : Int) ≤ ((i - cPar p : Nat) : Int) := Int.natCast_nonneg _
    obtain ⟨i0, hi0, hz0⟩ := Option.map_eq_some_iff.1 info_int
    simp only [Prod.mk.injEq] at hz0
    have hcut := cut_from 24 3 .i64 Tryd.underlying24 hi0 1 hz0.2.1 (some ad) (q.length + 2) c 1 (by omega) (by omega)
    rw [show (1 : Int).toNat = 1 from rfl] at hcut
    have hdrop : Kd.F (Kd.int .i64) W (fun k => k = gi) (if c = 1 then (some ad) else Option.map (fun (x : Addr) => x.add (1 * 1)) (some ad)) (nums (i2 :: q)).length (nums (i2 :: q)) := Kd.F_imp hF (fun W' h => Kd.C_drop (m := 1) h (by rw [hlen]; omega) hc)
    generalize (if c = 1 then (some ad) else Option.map (fun (x : Addr) => x.add (1 * 1)) (some ad)) = A1 at hcut hdrop
    rw [show q.length + 2 - 1 = q.length + 1 by omega] at hcut
    have e3 : IntKind.i64.wrap ((i : Int) + 1) = ((cPar (p ++ [i]) : Nat) : Int) := by rw [IntKind.wrap_i64, cPar_snoc]; omega
    have n1 : (0 : Int) < ((q.length + 2 : Nat) : Int) := by omega
    have n4 : ((q.length + 2 : Nat) : Int) > 1 := by omega
    have n5 : decide (((q.length + 2 : Nat) : Int) > 1) = true := decide_eq_true n4
    have hl : p ++ i :: i2 :: q = (p ++ [i]) ++ i2 :: q := by rw [List.append_assoc]; rfl
    have hcl : q.length + 1 ≤ c - 1 := by omega
    rw [hlen]
    rw [← cPar_snoc p i] at hr2
    cases hT : T (p ++ [i]) with
    | none =>
      rw [hT] at c1
      have c2 : W.cell? ⟨r.c, i - cPar p, none⟩ = some (.pointer none) := c1
      have hmk := make_ptrs (sh - i) (by omega)
      have HC1 := Aside0.mk (show Cache B (((W.alloc (rowO (sh - i))).alloc (.cells #[.slice none 0 0, .slice (some ⟨W.heap.size, 0, none⟩) (sh - i) (sh - i)] 52)).setCell ⟨r.c, i - cPar p, none⟩ (.pointer (some ⟨W.heap.size + 1, 0, none⟩))) sh _ from cache_new hC hp h1 h2 hT hB)
      have HB3 := Aside0.mk (show Below W.heap.size W ((W.alloc (rowO (sh - i))).alloc (.cells #[.slice none 0 0, .slice (some ⟨W.heap.size, 0, none⟩) (sh - i) (sh - i)] 52)) from below_alloc (below_alloc (Below.refl _ _) _) _)
      have HV := Aside0.mk hv
      have HR := Aside0.mk hR
      have HG := Aside0.mk hG
      have HGI := Aside0.mk hgi
      have HF := Aside0.mk hdrop
      have HTT := Aside0.mk hT
      have HBB := Aside0.mk hB
      have HRB := Aside0.mk hrB
      clear c1 hC hj hcs hx hv hR hG hgi hF hB hrB hdrop hi0 hz0 hp
      go_enter Tryd.func25, Tryd.ntmps25
      go_upto_region 4 with (fail)
      generalize (W.alloc (rowO (sh - i))).alloc (.cells #[.slice none 0 0, .slice (some ⟨W.heap.size, 0, none⟩) (sh - i) (sh - i)] 52) = w3 at *
      clear g1 c2
      have g1 : w3.cell? ⟨r.g, 1, none⟩ = some (.slice (some ⟨r.c, 0, none⟩) (sh - cLow p) (sh - cLow p)) := (blk_cell (blk_below HG.out HB3.out) 1).trans rfl
      have hR3 := blk_below HR.out HB3.out
      have HR3 := Aside0.mk hR3
      have f1 := blk_frozen hR3 (i - cPar p)
      obtain ⟨u0, c2⟩ : ∃ u0, w3.cell? ⟨r.c, i - cPar p, none⟩ = some u0 := ⟨_, (blk_cell hR3 _).trans (Array.getElem?_eq_getElem (by omega))⟩
      clear hR3
      go_upto_region 5 with (fail)
      have HK4 := Aside0.mk (((CKeep.refl W).below HB3.out).trans (CKeep.put HR3.out (.inl rfl) (i - cPar p) (.pointer (some ⟨W.heap.size + 1, 0, none⟩))))
      have HB4 := Aside0.mk (show Below B W (w3.setCell ⟨r.c, i - cPar p, none⟩ (.pointer (some ⟨W.heap.size + 1, 0, none⟩))) from (HB3.out.mono HBB.out).setCell HRB.out _)
      clear g1 c2 f1
      generalize w3.setCell ⟨r.c, i - cPar p, none⟩ (.pointer (some ⟨W.heap.size + 1, 0, none⟩)) = w4 at *
      have hl1 : ∀ s, lookM (cUpd T (p ++ [i]) ⟨W.heap.size + 1, W.heap.size, .slice none 0 0, []⟩) s = lookM T s := fun s => lookM_new _ _ _ HTT.out s
      have hx1 : ∀ s x, T s = some x → ∃ x', cUpd T (p ++ [i]) ⟨W.heap.size + 1, W.heap.size, .slice none 0 0, []⟩ s = some x' ∧ x'.g = x.g := fun s x hs => ⟨x, (cUpd_ne _ (fun h => by rw [h, HTT.out] at hs; cases hs)).trans hs, rfl⟩
      have hn := cUpd_same T (p ++ [i]) ⟨W.heap.size + 1, W.heap.size, .slice none 0 0, []⟩
      generalize cUpd T (p ++ [i]) ⟨W.heap.size + 1, W.heap.size, .slice none 0 0, []⟩ = T1 at *
      have HL1 := Aside0.mk hl1
      have HX1 := Aside0.mk hx1
      clear hl1 hx1
      have hrec := ih i2 (p ++ [i]) _ _ w4 A1 (c - 1) _ HC1.out (Nat.le_trans HBB.out HK4.out.1) hn hr2 ⟨gi, ci, (HK4.out.2 _ _ _ HGI.out (by decide) (by decide) (by decide)), (Kd.F_step HF.out (fun k hk _ => by subst hk; rw [HGI.out]; exact HK4.out.2 _ _ _ HGI.out (by decide) (by decide) (by decide)))⟩ (by rw [hlen2]; exact hcl) (by omega) (HK4.out.R HV.out (by decide))
      rw [hlen2, ← hl] at hrec
      have HREC := Aside0.mk hrec
      have HN := Aside0.mk hn
      clear hrec hn
      go_wp2_with (go_at_call 25; (with_reducible refine HREC.out.mono ?_); rintro e' w5 ⟨rfl, hpost⟩; have HP := Aside0.mk hpost; clear hpost)
      go_end0
      obtain ⟨T2, p1, p2, p3, p4, p5⟩ := HP.out
      refine ⟨rfl, T2, p1, fun s => ?_, fun s x hs => ?_, HB4.out.trans p4, HK4.out.trans p5⟩
      · rw [p2, HL1.out]
      · obtain ⟨x1, hx1, hg1⟩ := HX1.out s x hs
        obtain ⟨x2, hx2, hg2⟩ := p3 s x1 hx1
        exact ⟨x2, hx2, hg2.trans hg1⟩
    | some s =>
      rw [hT] at c1
      have c2 : W.cell? ⟨r.c, i - cPar p, none⟩ = some (.pointer (some ⟨s.g, 0, none⟩)) := c1
      have HC := Aside0.mk hC
      have HV := Aside0.mk hv
      have HGI := Aside0.mk hgi
      have HF := Aside0.mk hdrop
      have HBB := Aside0.mk hB
      have hn := hT
      clear c1 hC hj hcs hx hv hR hG hgi hF hB hrB hT hdrop hi0 hz0 hp
      have hrec := ih i2 (p ++ [i]) _ _ W A1 (c - 1) _ HC.out HBB.out hn hr2 ⟨gi, ci, HGI.out, HF.out⟩ (by rw [hlen2]; exact hcl) (by omega) HV.out
      rw [hlen2, ← hl] at hrec
      have HREC := Aside0.mk hrec
      have HN := Aside0.mk hn
      clear hrec hn
      go_enter Tryd.func25, Tryd.ntmps25
      go_wp2_with (go_at_call 25; (with_reducible refine HREC.out.mono ?_); rintro e' w5 ⟨rfl, hpost⟩; have HP := Aside0.mk hpost; clear hpost)
      go_end0
      obtain ⟨T2, p1, p2, p3, p4, p5⟩ := HP.out
      refine ⟨rfl, T2, p1, fun s => ?_, fun s x hs => ?_, p4, p5⟩
      · rw [p2]
      · exact p3 s x hs
end Go.Proofs.YtlfmplhleglibaaDoor.M
