/- The cache's tree: made, asked, put into, as the script does. -/
import Derived.Test.YtlfmplhleglibaaDoorCacheC
namespace Go.Proofs.YtlfmplhleglibaaDoor.M
open Go Go.RowKit Go.Proofs.YtlfmplhleglibaaDoorW.PrintWords Go.Proofs.YtlfmplhleglibaaDoorW.PrintLast Go.Proofs.YtlfmplhleglibaaDoorW.PrintMore
set_option linter.unusedVariables false
set_option linter.unusedSimpArgs false
theorem Cache.below {B : Nat} {W W' : World} {sh : Nat} {T : List Nat → Option CNd} (h : Cache B W sh T) (hb : Below W.heap.size W W') : Cache B W' sh T :=
  ⟨h.pre, fun p r hp => ⟨(h.nd p r hp).1, blk_below (h.nd p r hp).2 hb⟩, fun p r hp => by
    obtain ⟨a, cs, b, c, d⟩ := h.ch p r hp
    exact ⟨a, cs, blk_below b hb, c, d⟩, fun p r hp => Kd.R_below (h.mt p r hp) hb, h.inj, h.nil⟩
def cInit (g c : Nat) (v : Value) (m : List (List Int)) : List Nat → Option CNd := fun s => if s = [] then some ⟨g, c, v, m⟩ else none
theorem cache_init {B n : Nat} {W W' : World} {v : Value} {m : List (List Int)} (hB : B ≤ W.heap.size) (hv : rowsK.R 32 W B (fun _ => True) v m) (hm : m ≠ [])
    (hW : W' = (W.alloc (rowO n)).alloc (.cells #[v, .slice (some ⟨W.heap.size, 0, none⟩) n n] 54)) : Cache B W' n (cInit (W.heap.size + 1) W.heap.size v m) := by
  subst hW
  have s1 : (W.alloc (rowO n)).heap.size = W.heap.size + 1 := Array.size_push _
  have h0 : ∀ {s x}, cInit (W.heap.size + 1) W.heap.size v m s = some x → s = [] ∧ x = ⟨W.heap.size + 1, W.heap.size, v, m⟩ := fun {s x} h => by
    unfold cInit at h
    by_cases e : s = []
    · rw [if_pos e] at h; exact ⟨e, (Option.some.inj h).symm⟩
    · rw [if_neg e] at h; cases h
  refine ⟨fun p j h => ?_, fun p r h => ?_, fun p r h => ?_, fun p r h => ?_, fun p q r s h h' _ => ?_, fun p r h hnil => ?_⟩
  · exact absurd (show cInit (W.heap.size + 1) W.heap.size v m (p ++ [j]) = none from if_neg (by simp)) h
  · obtain ⟨rfl, rfl⟩ := h0 h
    refine ⟨Nat.le_succ_of_le hB, ?_⟩
    have := blk_new (W.alloc (rowO n)) (.cells #[v, .slice (some ⟨W.heap.size, 0, none⟩) n n] 54)
    rw [s1] at this
    exact this
  · obtain ⟨rfl, rfl⟩ := h0 h
    refine ⟨hB, Array.replicate n (.pointer none), blk_alloc (blk_new W (rowO n)) _, by rw [Array.size_replicate]; rfl, fun j hj => ?_⟩
    rw [show cInit (W.heap.size + 1) W.heap.size v m ([] ++ [cPar [] + j]) = none from if_neg (by simp), Array.getElem?_replicate, if_pos (by have : cPar [] = 0 := rfl; omega)]
    rfl
  · obtain ⟨rfl, rfl⟩ := h0 h
    exact Kd.R_alloc (Kd.R_alloc hv _) _
  · rw [(h0 h).1, (h0 h').1]
  · obtain ⟨rfl, rfl⟩ := h0 h
    exact absurd hnil hm
theorem look_init (g c : Nat) (v : Value) (m : List (List Int)) (s : List Nat) : lookM (cInit g c v m) s = if s = [] then m else [] := by
  unfold lookM cInit
  by_cases e : s = []
  · rw [if_pos e, if_pos e]
  · rw [if_neg e, if_neg e]
/-- The root of the tree. -/
def Root (T : List Nat → Option CNd) (gt : Nat) : Prop := ∃ r, T [] = some r ∧ r.g = gt
set_option maxHeartbeats 1000000 in
set_option maxRecDepth 100000 in
theorem newTree.calls (k : Nat) (a b n : Nat) (hn : a + b = n) (id : List (List Int)) (er : Option Int) (w : World) (hT : TabOK w) (hab : n ≤ 100000) (hid : id ≠ []) (h : reedsolomon_identityMatrix.f k (a : Int) = some (id, er)) :
    Calls Tryd.prog 21 #[.int .i64 (a : Int), .int .i64 (b : Int)] w fun e w' => ∃ (gt : Nat) (T : List Nat → Option CNd), e = .returned (.pointer (some ⟨gt, 0, none⟩)) ∧ Cache w.heap.size w' n T ∧ Root T gt ∧ (∀ s, lookM T s = if s = [] then id else []) ∧ Below w.heap.size w w' := by
  have HT := Aside0.mk hT
  have HA := Aside0.mk h
  have hmk := make_ptrs n hab
  have e1 : IntKind.i64.wrap ((a : Int) + (b : Int)) = (n : Int) := by rw [IntKind.wrap_i64]; omega
  clear hT h
  go_enter Tryd.func21, Tryd.ntmps21
  go_wp2_with (go_at_call 26; (with_reducible refine (reedsolomon_identityMatrix.calls k (a : Int) id er _ HT.out HA.out).mono ?_); rintro e' w1 ⟨T_, X_, v0, rfl, ho, hb⟩; obtain ⟨A0, c0, rfl⟩ := Kd.S_slice ho; have HO := Aside0.mk ho; have HB := Aside0.mk hb; clear ho hb)
  go_ret
  refine ⟨w1.heap.size + 1, _, rfl, cache_init HB.out.size (Kd.S_R HO.out) hid rfl, ⟨_, rfl, rfl⟩, fun s => look_init _ _ _ _ s, below_step HB.out (below_alloc (below_alloc (Below.refl _ _) _) _)⟩
set_option maxHeartbeats 1000000 in
set_option maxRecDepth 100000 in
theorem doorCache.calls (k : Nat) (a b n : Nat) (hn : a + b = n) (id : List (List Int)) (er : Option Int) (w : World) (hT : TabOK w) (hab : n ≤ 100000) (hid : id ≠ []) (h : reedsolomon_identityMatrix.f k (a : Int) = some (id, er)) :
    Calls Tryd.prog 13 #[.int .i64 (a : Int), .int .i64 (b : Int)] w fun e w' => ∃ (gt : Nat) (T : List Nat → Option CNd), e = .returned (.pointer (some ⟨gt, 0, none⟩)) ∧ Cache w.heap.size w' n T ∧ Root T gt ∧ (∀ s, lookM T s = if s = [] then id else []) ∧ Below w.heap.size w w' := by
  have HT := Aside0.mk hT
  have HA := Aside0.mk h
  clear hT h
  go_enter Tryd.func13, Tryd.ntmps13
  go_wp2_with (go_at_call 21; (with_reducible refine (newTree.calls k a b n hn id er _ HT.out hab hid HA.out).mono ?_); rintro e' w1 ⟨gt, T, rfl, p1, p2, p3, p4⟩; have HP := Aside0.mk (And.intro p1 (And.intro p2 (And.intro p3 p4))); clear p1 p2 p3 p4)
  go_ret
  exact ⟨gt, T, rfl, HP.out⟩
set_option maxHeartbeats 1000000 in
set_option maxRecDepth 100000 in
theorem treeGet.calls {B sh gt : Nat} {T : List Nat → Option CNd} {W : World} (hC : Cache B W sh T) (hR : Root T gt) (hsh : sh ≤ 100000) (q : List Nat) (A : Option Addr) (c : Nat) (hq : ris sh 0 q) (hA : Kd.C (Kd.int .i64) W A (nums q).length (nums q)) (hc : (nums q).length ≤ c) (hl : q.length < 100000) :
    Calls Tryd.prog 15 #[.pointer (some ⟨gt, 0, none⟩), .slice A (nums q).length c] W fun e w' => e = .returned (look T q) ∧ w' = W := by
  obtain ⟨r, hr, rfl⟩ := hR
  obtain ⟨_, hG⟩ := hC.nd [] r hr
  have g0 : W.cell? ⟨r.g, 0, none⟩ = some r.v := (blk_cell hG 0).trans rfl
  cases q with
  | nil =>
    have hl2 : look T [] = r.v := by unfold look; rw [hr]
    have hn : (nums []).length = 0 := rfl
    rw [hl2, hn]
    clear hC hG hA hn
    go_enter Tryd.func15, Tryd.ntmps15
    go_wp2
    go_ret
    exact ⟨rfl, rfl⟩
  | cons i q =>
    have hrec := getInverted.calls hC hsh q i [] r A c hr hq hA hc (by rw [List.length_cons] at hl; omega)
    have hlen : (nums (i :: q)).length = q.length + 1 := by simp [nums]
    rw [show ((cPar [] : Nat) : Int) = 0 from rfl, show ([] : List Nat) ++ i :: q = i :: q from rfl, hlen] at hrec
    rw [hlen]
    have n1 : ¬ ((q.length + 1 : Nat) : Int) = 0 := by omega
    have n2 : (((q.length + 1 : Nat) : Int) == 0) = false := by rw [beq_eq_false_iff_ne]; exact n1
    have HREC := Aside0.mk hrec
    clear hC hG hA hrec g0 hlen hc
    go_enter Tryd.func15, Tryd.ntmps15
    go_wp2_with (go_at_call 22; (with_reducible refine HREC.out.mono ?_); rintro e' w' ⟨rfl, rfl⟩)
    go_ret
    exact ⟨rfl, rfl⟩
end Go.Proofs.YtlfmplhleglibaaDoor.M
