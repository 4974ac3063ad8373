/- The cache's tree in memory: its nodes by the lists of indexes that lead to them; and the search. -/
import Derived.Test.YtlfmplhleglibaaDoorM
import Derived.Outline
namespace Go.Proofs.YtlfmplhleglibaaDoor.M
open Go Go.RowKit Go.Proofs.YtlfmplhleglibaaDoorW.PrintWords Go.Proofs.YtlfmplhleglibaaDoorW.PrintLast Go.Proofs.YtlfmplhleglibaaDoorW.PrintMore
set_option linter.unusedVariables false
set_option linter.unusedSimpArgs false
/-- A node: its block, its children's, its matrix. -/
structure CNd where
  g : Nat
  c : Nat
  v : Value
  m : List (List Int)
def cPar (p : List Nat) : Nat := match p.getLast? with
  | none => 0
  | some i => i + 1
def cLow (p : List Nat) : Nat := match p.getLast? with
  | none => 0
  | some i => i
def cTy (p : List Nat) : Nat := if p = [] then 54 else 52
theorem cPar_snoc (p : List Nat) (i : Nat) : cPar (p ++ [i]) = i + 1 := by unfold cPar; rw [List.getLast?_concat]
theorem cLow_snoc (p : List Nat) (i : Nat) : cLow (p ++ [i]) = i := by unfold cLow; rw [List.getLast?_concat]
theorem cLow_le (p : List Nat) : cLow p ≤ cPar p ∧ cPar p ≤ cLow p + 1 := by
  unfold cLow cPar
  split <;> omega
def ptrV (o : Option CNd) : Value := .pointer (o.map fun r => ⟨r.g, 0, none⟩)
def rowsK : Kd (List Int) := Kd.slice 5 (Kd.int .u8)
/-- The cache in memory: T tells the node at the end of each list of indexes. -/
structure Cache (B : Nat) (W : World) (sh : Nat) (T : List Nat → Option CNd) : Prop where
  pre : ∀ p i, T (p ++ [i]) ≠ none → T p ≠ none
  nd : ∀ p r, T p = some r → B ≤ r.g ∧ W.heap[r.g]? = some (.cells #[r.v, .slice (some ⟨r.c, 0, none⟩) (sh - cLow p) (sh - cLow p)] (cTy p) (0, 0))
  ch : ∀ p r, T p = some r → B ≤ r.c ∧ ∃ cs : Array Value, W.heap[r.c]? = some (.cells cs 61 (0, 0)) ∧ cs.size = sh - cLow p ∧ ∀ j, cPar p + j < sh → cs[j]? = some (ptrV (T (p ++ [cPar p + j])))
  mt : ∀ p r, T p = some r → rowsK.R 32 W B (fun _ => True) r.v r.m
  inj : ∀ p q r s, T p = some r → T q = some s → (r.g = s.g ∨ r.c = s.c) → p = q
  nil : ∀ p r, T p = some r → r.m = [] → r.v = .slice none 0 0
def look (T : List Nat → Option CNd) (q : List Nat) : Value := match T q with
  | some r => r.v
  | none => .slice none 0 0
def lookM (T : List Nat → Option CNd) (q : List Nat) : List (List Int) := match T q with
  | some r => r.m
  | none => []
def ris (sh : Nat) : Nat → List Nat → Prop
  | _, [] => True
  | lo, i :: q => lo ≤ i ∧ i < sh ∧ ris sh (i + 1) q
theorem pre_none {T : List Nat → Option CNd} (hp : ∀ p i, T (p ++ [i]) ≠ none → T p ≠ none) : ∀ (q p : List Nat), T p = none → T (p ++ q) = none
  | [], p, h => by rw [List.append_nil]; exact h
  | i :: q, p, h => by
    have h1 : T (p ++ [i]) = none := Classical.byContradiction (fun h2 => hp p i h2 h)
    have := pre_none hp q (p ++ [i]) h1
    rw [List.append_assoc] at this
    exact this
def nums (q : List Nat) : List Int := q.map (Int.ofNat)
theorem info_int : (Tryd.prog.info? 3).map (fun i => (i.zero, i.size, i.bytes)) = some (some (.int .i64 0), 1, 8) := by kernel_rfl
set_option maxHeartbeats 1000000 in
set_option maxRecDepth 100000 in
theorem getInverted.calls {B sh : Nat} {T : List Nat → Option CNd} {W : World} (hC : Cache B W sh T) (hsh : sh ≤ 100000) : ∀ (q : List Nat) (i : Nat) (p : List Nat) (r : CNd) (A : Option Addr) (c : Nat), T p = some r → ris sh (cPar p) (i :: q) → Kd.C (Kd.int .i64) W A (nums (i :: q)).length (nums (i :: q)) → (nums (i :: q)).length ≤ c → q.length < 100000 →
    Calls Tryd.prog 22 #[.pointer (some ⟨r.g, 0, none⟩), .slice A (nums (i :: q)).length c, .int .i64 (cPar p : Int)] W fun e w' => e = .returned (look T (p ++ i :: q)) ∧ w' = W := by
  intro q
  induction q with
  | nil =>
    intro i p r A c hp hr hA hc hq
    obtain ⟨h1, h2, _⟩ := hr
    have hlow := cLow_le p
    obtain ⟨ad, rfl, hx⟩ := Kd.at_int hA 0 (Int.le_refl _) (by simp [nums])
    obtain ⟨_, hG⟩ := hC.nd p r hp
    obtain ⟨_, cs, hR, hsz, hcs⟩ := hC.ch p r hp
    have hx0 : W.cell? ad = some (.int .i64 (i : Int)) := by rw [show ad.add (0 : Int).toNat = ad from Addr.add_zero' _] at hx; exact hx
    have g1 : W.cell? ⟨r.g, 1, none⟩ = some (.slice (some ⟨r.c, 0, none⟩) (sh - cLow p) (sh - cLow p)) := (blk_cell hG 1).trans rfl
    have hj := hcs (i - cPar p) (by omega)
    rw [show cPar p + (i - cPar p) = i by omega] at hj
    have c1 : W.cell? ⟨r.c, i - cPar p, none⟩ = some (ptrV (T (p ++ [i]))) := (blk_cell hR _).trans hj
    have e1 : IntKind.i64.wrap ((i : Int) - (cPar p : Int)) = ((i - cPar p : Nat) : Int) := by rw [IntKind.wrap_i64]; omega
    have n1 : (0 : Int) < ((nums [i]).length : Int) := by simp [nums]
    have n2 : ((i - cPar p : Nat) : Int) < ((sh - cLow p : Nat) : Int) := by omega
    have n3 : (0 : Int) ≤ ((i - cPar p : Nat) : Int) := Int.natCast_nonneg _
    have n4 : decide (((nums [i]).length : Int) > 1) = false := by simp [nums]
    have n5 : ¬ ((nums [i]).length : Int) > 1 := by simp [nums]
    have n6 : (nums [i]).length = 1 := by simp [nums]
    generalize hd : i - cPar p = d at *
    clear hd hj hcs hx hG
    rw [n6]
    cases hT : T (p ++ [i]) with
    | none =>
      rw [hT] at c1
      have c2 : W.cell? ⟨r.c, d, none⟩ = some (.pointer none) := c1
      have hl : look T (p ++ [i]) = .slice none 0 0 := by unfold look; rw [hT]
      rw [hl]
      clear c1 hC
      go_enter Tryd.func22, Tryd.ntmps22
      go_wp2
      go_ret
      exact ⟨rfl, rfl⟩
    | some s =>
      rw [hT] at c1
      have c2 : W.cell? ⟨r.c, d, none⟩ = some (.pointer (some ⟨s.g, 0, none⟩)) := c1
      have hl : look T (p ++ [i]) = s.v := by unfold look; rw [hT]
      obtain ⟨_, hG2⟩ := hC.nd _ s hT
      have g2 : W.cell? ⟨s.g, 0, none⟩ = some s.v := (blk_cell hG2 0).trans rfl
      rw [hl]
      clear c1 hC hG2
      go_enter Tryd.func22, Tryd.ntmps22
      go_wp2
      go_ret
      exact ⟨rfl, rfl⟩
  | cons i2 q ih =>
    intro i p r A c hp hr hA hc hq
    obtain ⟨h1, h2, hr2⟩ := hr
    have hlow := cLow_le p
    rw [List.length_cons] at hq
    have hlen : (nums (i :: i2 :: q)).length = q.length + 2 := by simp [nums]
    have hlen2 : (nums (i2 :: q)).length = q.length + 1 := by simp [nums]
    obtain ⟨ad, rfl, hx⟩ := Kd.at_int hA 0 (Int.le_refl _) (by rw [hlen]; omega)
    obtain ⟨_, hG⟩ := hC.nd p r hp
    obtain ⟨_, cs, hR, hsz, hcs⟩ := hC.ch p r hp
    have hx0 : W.cell? ad = some (.int .i64 (i : Int)) := by rw [show ad.add (0 : Int).toNat = ad from Addr.add_zero' _] at hx; exact hx
    have g1 : W.cell? ⟨r.g, 1, none⟩ = some (.slice (some ⟨r.c, 0, none⟩) (sh - cLow p) (sh - cLow p)) := (blk_cell hG 1).trans rfl
    have hj := hcs (i - cPar p) (by omega)
    rw [show cPar p + (i - cPar p) = i by omega] at hj
    have c1 : W.cell? ⟨r.c, i - cPar p, none⟩ = some (ptrV (T (p ++ [i]))) := (blk_cell hR _).trans hj
    have e1 : IntKind.i64.wrap ((i : Int) - (cPar p : Int)) = ((i - cPar p : Nat) : Int) := by rw [IntKind.wrap_i64]; omega
    have n2 : ((i - cPar p : Nat) : Int) < ((sh - cLow p : Nat) : Int) := by omega
    have n3 : (0 : Int) ≤ ((i - cPar p : Nat) : Int) := Int.natCast_nonneg _
    generalize hd : i - cPar p = d at *
    cases hT : T (p ++ [i]) with
    | none =>
      rw [hT] at c1
      have c2 : W.cell? ⟨r.c, d, none⟩ = some (.pointer none) := c1
      have hl : look T (p ++ i :: i2 :: q) = .slice none 0 0 := by
        have := pre_none hC.pre (i2 :: q) (p ++ [i]) hT
        rw [List.append_assoc] at this
        unfold look
        rw [show p ++ i :: i2 :: q = p ++ ([i] ++ i2 :: q) from rfl, this]
      rw [hl]
      rw [hlen] at *
      have n1 : (0 : Int) < ((q.length + 2 : Nat) : Int) := by omega
      clear c1 hC ih hd hj hcs hx hG
      go_enter Tryd.func22, Tryd.ntmps22
      go_wp2
      go_ret
      exact ⟨rfl, rfl⟩
    | some s =>
      rw [hT] at c1
      have c2 : W.cell? ⟨r.c, d, none⟩ = some (.pointer (some ⟨s.g, 0, none⟩)) := c1
      have hl : p ++ i :: i2 :: q = (p ++ [i]) ++ i2 :: q := by rw [List.append_assoc]; rfl
      obtain ⟨i0, hi0, hz0⟩ := Option.map_eq_some_iff.1 info_int
      simp only [Prod.mk.injEq] at hz0
      have hcut := cut_from 24 3 .i64 Tryd.underlying24 hi0 1 hz0.2.1 (some ad) (q.length + 2) c 1 (by omega) (by omega)
      rw [show (1 : Int).toNat = 1 from rfl] at hcut
      have hdrop := Kd.C_drop (m := 1) hA (by rw [hlen]; omega) hc
      rw [show (nums (i :: i2 :: q)).drop 1 = nums (i2 :: q) from rfl] at hdrop
      have hcsz : (Kd.int .i64 : Kd Int).sz = 1 := rfl
      rw [hcsz] at hdrop
      generalize (if c = 1 then (some ad) else Option.map (fun (x : Addr) => x.add (1 * 1)) (some ad)) = A1 at hcut hdrop
      have hn2 : q.length + 2 - 1 = (nums (i2 :: q)).length := by rw [hlen2]; omega
      rw [hn2] at hcut
      have hrec := ih i2 (p ++ [i]) s A1 (c - 1) hT (by rw [cPar_snoc]; exact hr2) hdrop (by rw [hlen2]; omega) (by omega)
      have e2 : IntKind.i64.wrap ((i : Int) + 1) = ((cPar (p ++ [i]) : Nat) : Int) := by rw [IntKind.wrap_i64, cPar_snoc]; omega
      rw [hlen2] at hrec hcut
      rw [← hl] at hrec
      rw [hlen] at *
      have n1 : (0 : Int) < ((q.length + 2 : Nat) : Int) := by omega
      have n4 : ((q.length + 2 : Nat) : Int) > 1 := by omega
      have n5 : decide (((q.length + 2 : Nat) : Int) > 1) = true := decide_eq_true n4
      have HREC := Aside0.mk hrec
      clear c1 hC ih hd hj hcs hx hG hrec hi0 hz0 hdrop hn2 hl hlen hlen2 hA
      go_enter Tryd.func22, Tryd.ntmps22
      go_wp2_with (go_at_call 22; (with_reducible refine HREC.out.mono ?_); rintro e' w' ⟨rfl, rfl⟩)
      go_ret
      exact ⟨rfl, rfl⟩
end Go.Proofs.YtlfmplhleglibaaDoor.M
