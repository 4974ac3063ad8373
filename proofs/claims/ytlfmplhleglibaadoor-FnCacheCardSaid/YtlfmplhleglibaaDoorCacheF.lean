/- The script over the cache: what it computes, and its answers in memory. -/
import Derived.Test.YtlfmplhleglibaaDoorCacheE
import Derived.Laws.Cover3
namespace Go.Proofs.YtlfmplhleglibaaDoor.M
open Go Go.RowKit Go.Proofs.YtlfmplhleglibaaDoorW.PrintWords Go.Proofs.YtlfmplhleglibaaDoorW.PrintLast Go.Proofs.YtlfmplhleglibaaDoorW.PrintMore
set_option linter.unusedVariables false
set_option linter.unusedSimpArgs false
structure S34 where
  f0 : Bool
  f1 : (List (List Int))
def z34 : S34 := ⟨false, ([] : List (List Int))⟩
def k34 : Kd S34 := Kd.iso (Kd.pair Kd.bool (Kd.slice 32 (Kd.slice 5 (Kd.int .u8)))) (fun x : S34 => (x.f0, x.f1))
theorem k34_open {w : World} {x : S34} {cs : List Value} (h : k34.K w x cs) : ∃ A1 c1, cs = [.bool x.f0, .slice A1 x.f1.length c1] ∧ x.f1.length ≤ c1 ∧ (Kd.slice 5 (Kd.int .u8)).C w A1 x.f1.length x.f1 := by
  obtain ⟨_, _, rfl, rfl, ⟨A1, c1, rfl, l1, g1⟩⟩ := h
  exact ⟨A1, c1, rfl, l1, g1⟩
theorem k34_openM {w : World} {base : Nat} {ok : Nat → Prop} {x : S34} {cs : List Value} (h : k34.M w base ok x cs) : ∃ v1, cs = [.bool x.f0, v1] ∧ (Kd.slice 5 (Kd.int .u8)).R 32 w base ok v1 x.f1 := by
  obtain ⟨_, _, rfl, rfl, ⟨v1, rfl, g1⟩⟩ := h
  exact ⟨v1, rfl, g1⟩
theorem k34_mkM (w : World) (base : Nat) (ok : Nat → Prop) (x : S34) {v1 : Value} (g1 : (Kd.slice 5 (Kd.int .u8)).R 32 w base ok v1 x.f1) : k34.M w base ok x [.bool x.f0, v1] := ⟨[.bool x.f0], [v1], rfl, rfl, ⟨v1, rfl, g1⟩⟩
def rd_T34 (xs : List S34) (i : Int) : S34 := xs.getD i.toNat z34
theorem at_T34 {w : World} {A : Option Addr} {n : Nat} {xs : List S34} (h : Kd.C k34 w A n xs) (i : Int) (h0 : 0 ≤ i) (h1 : i < n) : ∃ ad A1 c1, A = some ad ∧ w.cell? (ad.add (i.toNat * 2)) = some (.bool (rd_T34 xs i).f0) ∧ w.cell? ⟨(ad.add (i.toNat * 2)).block, (ad.add (i.toNat * 2)).off + 1, none⟩ = some (.slice A1 (rd_T34 xs i).f1.length c1) ∧ (rd_T34 xs i).f1.length ≤ c1 ∧ (Kd.slice 5 (Kd.int .u8)).C w A1 (rd_T34 xs i).f1.length (rd_T34 xs i).f1 := by
  obtain ⟨ad, c, e, _, hK, hc0⟩ := Kd.C_get h z34 i h0 h1
  have hc : ∀ j u, c[j]? = some u → w.cell? (ad.add (i.toNat * 2 + j)) = some u := hc0
  obtain ⟨A1, c1, rfl, l1, g1⟩ := k34_open hK
  exact ⟨ad, A1, c1, e, hc 0 _ rfl, by rw [← add_field _ _ 1 (by omega)]; exact hc 1 _ rfl, l1, g1⟩
theorem info_ans : (Tryd.prog.info? 34).map (fun i => (i.zero, i.size, i.bytes)) = some (some (.agg #[.bool false, .slice none 0 0]), 2, 32) := by kernel_rfl
def toN (l : List Int) : List Nat := l.map Int.toNat
theorem nums_toN : ∀ (l : List Int), (∀ x ∈ l, 0 ≤ x) → nums (toN l) = l
  | [], _ => rfl
  | x :: l, h => by
    have h1 := h x (List.mem_cons_self ..)
    have h2 := nums_toN l (fun y hy => h y (List.mem_cons_of_mem _ hy))
    show Int.ofNat x.toNat :: nums (toN l) = x :: l
    rw [h2, show Int.ofNat x.toNat = x from Int.toNat_of_nonneg h1]
theorem ris_len {sh : Nat} : ∀ (q : List Nat) (lo : Nat), lo ≤ sh → ris sh lo q → q.length + lo ≤ sh
  | [], lo, h, _ => by simpa using h
  | i :: q, lo, h, ⟨h1, h2, h3⟩ => by
    have := ris_len q (i + 1) (by omega) h3
    rw [List.length_cons]
    omega
theorem rising_loop {l : List Int} {sh : Nat} (hsh : sh ≤ 100000) (hl : l.length ≤ 2147483647) : ∀ (rest pre : List Int) (k : Nat) (nx : Nat), l = pre ++ rest → nx ≤ 100000 → impl_rising.l0 k (sh : Int) (nx : Int) l (l.length : Int) (pre.length : Int) = some true → (∀ x ∈ rest, 0 ≤ x) ∧ ris sh nx (toN rest)
  | [], pre, k, nx, h, _, _ => ⟨fun x hx => by (cases hx), trivial⟩
  | y :: rest, pre, 0, nx, h, _, hk => by simp [impl_rising.l0] at hk
  | y :: rest, pre, k + 1, nx, h, hnx, hk => by
    have hlen : l.length = pre.length + (rest.length + 1) := by rw [h, List.length_append, List.length_cons]
    have hy : rd l (pre.length : Int) = y := by
      unfold rd
      rw [h, Int.toNat_natCast, List.getD_eq_getElem?_getD, List.getElem?_append_right (Nat.le_refl _), Nat.sub_self]
      rfl
    rw [impl_rising.l0, if_pos (by omega), if_pos (by omega), if_pos (by omega), hy] at hk
    by_cases h1 : y < (nx : Int)
    · rw [if_pos h1] at hk; cases hk
    · rw [if_neg h1] at hk
      by_cases h2 : y ≥ (sh : Int)
      · rw [if_pos h2] at hk; cases hk
      · rw [if_neg h2] at hk
        have e1 : wrap64 (y + 1) = ((y.toNat + 1 : Nat) : Int) := by unfold wrap64; omega
        have e2 : wrap64 ((pre.length : Int) + 1) = ((pre.length + 1 : Nat) : Int) := by unfold wrap64; omega
        rw [e1, e2] at hk
        have ih := rising_loop hsh hl rest (pre ++ [y]) k (y.toNat + 1) (by rw [h, List.append_assoc]; rfl) (by omega) (by rw [List.length_append, List.length_singleton]; exact hk)
        refine ⟨fun x hx => ?_, ⟨by omega, by omega, ih.2⟩⟩
        rcases List.mem_cons.1 hx with rfl | hx
        · omega
        · exact ih.1 x hx
theorem rising_ris {l : List Int} {sh k : Nat} (hsh : sh ≤ 100000) (hl : l.length ≤ 2147483647) (h : impl_rising.f k l (sh : Int) = some true) : nums (toN l) = l ∧ ris sh 0 (toN l) ∧ l.length ≤ sh := by
  have := rising_loop hsh hl l [] k 0 rfl (by omega) h
  refine ⟨nums_toN l this.1, this.2, ?_⟩
  have h2 := ris_len (toN l) 0 (Nat.zero_le _) this.2
  rw [toN, List.length_map] at h2
  omega
/-- What the script answers: M tells the matrix at the end of each list of indexes. -/
def csF (k : Nat) (sh : Int) : (List Nat → List (List Int)) → List S34 → List S27 → Option (List S34)
  | _, out, [] => some out
  | M, out, s :: rest =>
    if s.f1.length ≤ 2147483647 then (impl_rising.f k s.f1 sh).bind fun ri =>
      if ri = true then
        if s.f0 = true then (impl_isMatrix.f k s.f2).bind fun im =>
          if im = true then (impl_rows.f k s.f2).bind fun m => (reedsolomon_matrix_IsSquare.f m).bind fun sq =>
            if toN s.f1 ≠ [] ∧ sq = true then csF k sh (fun x => if x = toN s.f1 then m else M x) (out ++ [⟨true, []⟩]) rest
            else csF k sh M (out ++ [⟨false, []⟩]) rest
          else csF k sh M (out ++ [⟨false, []⟩]) rest
        else (impl_rows.f k (M (toN s.f1))).bind fun y => csF k sh M (out ++ [⟨decide (M (toN s.f1) ≠ []), y⟩]) rest
      else csF k sh M (out ++ [⟨false, []⟩]) rest
    else none
def impl_CacheScript.f (k : Nat) (a0 a1 : Int) (l2 : List S27) : Option (List S34) :=
  if a0 < 1 ∨ a1 < 0 ∨ a0 > 256 ∨ a1 > 256 then some []
  else if l2.length ≤ 1000 then (reedsolomon_identityMatrix.f k a0).bind fun id => if id.1 ≠ [] then csF k (a0 + a1) (fun s => if s = [] then id.1 else []) [] l2 else none
  else none
theorem csF.mono (k : Nat) (sh : Int) : ∀ (l : List S27) (M : List Nat → List (List Int)) (out : List S34), LeO (csF k sh M out l) (csF (k + 1) sh M out l)
  | [], M, out => LeO.refl _
  | s :: rest, M, out => by
    rw [csF, csF]
    exact LeO.ite (LeO.bind (impl_rising.mono _ _ _) (fun ri => LeO.ite (LeO.ite (LeO.bind (impl_isMatrix.mono _ _) (fun im => LeO.ite (LeO.bind (impl_rows.mono _ _) (fun m => LeO.bind (LeO.refl _) (fun sq => LeO.ite (csF.mono k sh rest _ _) (csF.mono k sh rest _ _)))) (csF.mono k sh rest _ _))) (LeO.bind (impl_rows.mono _ _) (fun y => csF.mono k sh rest _ _))) (csF.mono k sh rest _ _))) (LeO.refl _)
theorem impl_CacheScript.mono : ∀ a0 a1 l2 k, LeO (impl_CacheScript.f k a0 a1 l2) (impl_CacheScript.f (k + 1) a0 a1 l2) := by
  intro a0 a1 l2 k
  unfold impl_CacheScript.f
  exact LeO.ite (LeO.refl _) (LeO.ite (LeO.bind (reedsolomon_identityMatrix.mono _ _) (fun id => LeO.ite (csF.mono _ _ _ _ _) (LeO.refl _))) (LeO.refl _))
theorem look_form {B sh : Nat} {W : World} {T : List Nat → Option CNd} (hC : Cache B W sh T) (q : List Nat) : (lookM T q = [] ∧ look T q = .slice none 0 0) ∨ ∃ g c, lookM T q ≠ [] ∧ look T q = .slice (some ⟨g, 0, none⟩) (lookM T q).length c := by
  unfold lookM look
  cases h : T q with
  | none => exact .inl ⟨rfl, rfl⟩
  | some r =>
    by_cases hm : r.m = []
    · exact .inl ⟨hm, hC.nil q r h hm⟩
    · obtain ⟨g, c, hv, _⟩ := Kd.N_form (Kd.R_N (hC.mt q r h)) (List.length_pos_iff.2 hm)
      exact .inr ⟨g, c, hm, hv⟩
theorem look_R {B sh : Nat} {W : World} {T : List Nat → Option CNd} (hC : Cache B W sh T) (q : List Nat) : rowsK.R 32 W B (fun _ => True) (look T q) (lookM T q) := by
  unfold lookM look
  cases h : T q with
  | none => exact Kd.R_nil _ _ _ _ _
  | some r => exact hC.mt q r h
theorem Cache.grown {B B' sh : Nat} {W W' : World} {T : List Nat → Option CNd} {ok : Nat → Prop} {u : Value} {out : List S34} (hC : Cache B W sh T) (hO : k34.R 34 W B' ok u out) (hg : W.grownBy W' u.ownBlock) : Cache B W' sh T := by
  have hne : ∀ p, 34 ≠ cTy p := fun p => by
    unfold cTy
    split <;> decide
  refine ⟨hC.pre, fun p r h => ?_, fun p r h => ?_, fun p r h => Kd.R_over' (hC.mt p r h) (Kd.R_typed hO) (by decide) hg, hC.inj, hC.nil⟩
  · obtain ⟨h1, h2⟩ := hC.nd p r h
    exact ⟨h1, blk_grown h2 hg (Kd.R_ne hO h2 (hne p))⟩
  · obtain ⟨h1, cs, h2, h3⟩ := hC.ch p r h
    exact ⟨h1, cs, blk_grown h2 hg (Kd.R_ne hO h2 (by decide)), h3⟩
theorem Cache.put34 {B sh : Nat} {W : World} {T : List Nat → Option CNd} {ga : Nat} {cs : Array Value} (hC : Cache B W sh T) (hG : W.heap[ga]? = some (.cells cs 34 (0, 0))) (j : Nat) (u : Value) : Cache B (W.setCell ⟨ga, j, none⟩ u) sh T := by
  have hne : ∀ p, cTy p ≠ 34 := fun p => by
    unfold cTy
    split <;> decide
  refine ⟨hC.pre, fun p r h => ?_, fun p r h => ?_, fun p r h => Kd.R_set (hC.mt p r h) hG (by decide) _ _, hC.inj, hC.nil⟩
  · obtain ⟨h1, h2⟩ := hC.nd p r h
    exact ⟨h1, blk_far h2 (p := ⟨ga, j, none⟩) (blk_ne h2 hG (hne p)) _⟩
  · obtain ⟨h1, cs, h2, h3⟩ := hC.ch p r h
    exact ⟨h1, cs, blk_far h2 (p := ⟨ga, j, none⟩) (blk_ne h2 hG (by decide)) _, h3⟩
theorem ints_own {W : World} {base c : Nat} {ok : Nat → Prop} {A : Option Addr} {l : List Int} (h : (Kd.int .i64).R 3 W base ok (.slice A l.length c) l) (hl : l ≠ []) : ∃ (gi : Nat) (ci : Array Value), W.heap[gi]? = some (.cells ci 3 (0, 0)) ∧ Kd.F (Kd.int .i64) W (fun k => k = gi) A l.length l := by
  obtain ⟨g, cap, hv, _, _, cells, hc⟩ := Kd.N_form (Kd.R_N h) (List.length_pos_iff.2 hl)
  refine ⟨g, cells, hc, Kd.F_mono (Kd.R_F (Kd.R_tight rfl h)) (fun k hk => ?_)⟩
  rw [hv] at hk
  simpa [Value.ownBlock] using hk
set_option maxHeartbeats 4000000 in
set_option maxRecDepth 100000 in
theorem impl_CacheScript.calls (k : Nat) (a0 a1 : Int) (A2 : Option Addr) (c2 : Nat) (l2 : List S27) (r : List S34) (w : World) (hT : TabOK w) (hr2 : Kd.C k27 w A2 l2.length l2) (hc2 : l2.length ≤ c2) (h : impl_CacheScript.f k a0 a1 l2 = some r) :
    Calls Tryd.prog 7 #[.int .i64 a0, .int .i64 a1, .slice A2 l2.length c2] w fun e w' => ∃ v, e = .returned v ∧ k34.R 34 w' w.heap.size (fun _ => True) v r ∧ Below w.heap.size w w' := by
  have hu27 := Tryd.underlying27
  have hu34 := Tryd.underlying34
  have hu47 := Tryd.underlying47
  have hu43 := Tryd.underlying43
  unfold impl_CacheScript.f at h
  by_cases q1 : a0 < 1
  · rw [if_pos (.inl q1)] at h
    obtain rfl := Option.some.inj h
    have q1b := decide_eq_true q1
    clear hr2 hT h
    go_enter Tryd.func7, Tryd.ntmps7
    go_wp2
    go_ret
    exact ⟨_, rfl, Kd.R_nil _ _ _ _ _, Below.refl _ _⟩
  have q1b := decide_eq_false q1
  by_cases q2 : a1 < 0
  · rw [if_pos (.inr (.inl q2))] at h
    obtain rfl := Option.some.inj h
    have q2b := decide_eq_true q2
    clear hr2 hT h
    go_enter Tryd.func7, Tryd.ntmps7
    go_wp2
    go_ret
    exact ⟨_, rfl, Kd.R_nil _ _ _ _ _, Below.refl _ _⟩
  have q2b := decide_eq_false q2
  by_cases q3 : a0 > 256
  · rw [if_pos (.inr (.inr (.inl q3)))] at h
    obtain rfl := Option.some.inj h
    have q3b := decide_eq_true q3
    clear hr2 hT h
    go_enter Tryd.func7, Tryd.ntmps7
    go_wp2
    go_ret
    exact ⟨_, rfl, Kd.R_nil _ _ _ _ _, Below.refl _ _⟩
  have q3b := decide_eq_false q3
  by_cases q4 : a1 > 256
  · rw [if_pos (.inr (.inr (.inr q4)))] at h
    obtain rfl := Option.some.inj h
    have q4b := decide_eq_true q4
    clear hr2 hT h
    go_enter Tryd.func7, Tryd.ntmps7
    go_wp2
    go_ret
    exact ⟨_, rfl, Kd.R_nil _ _ _ _ _, Below.refl _ _⟩
  have q4b := decide_eq_false q4
  rw [if_neg (fun h_ => h_.elim q1 (fun h_ => h_.elim q2 (fun h_ => h_.elim q3 q4)))] at h
  by_cases q5 : l2.length ≤ 1000
  case neg => rw [if_neg q5] at h; cases h
  rw [if_pos q5] at h
  obtain ⟨⟨id, er⟩, hid, h⟩ := Option.bind_eq_some_iff.mp h
  dsimp only at h
  by_cases q6 : id ≠ []
  case neg => rw [if_neg q6] at h; cases h
  rw [if_pos q6] at h
  obtain ⟨a, rfl⟩ := Int.eq_ofNat_of_zero_le (show 0 ≤ a0 by omega)
  obtain ⟨b, rfl⟩ := Int.eq_ofNat_of_zero_le (show 0 ≤ a1 by omega)
  obtain ⟨n, hn⟩ : ∃ n, a + b = n := ⟨_, rfl⟩
  rw [show ((a : Int) + (b : Int)) = (n : Int) by omega] at h
  have hab : n ≤ 1000 := by omega
  have e1 : IntKind.i64.wrap ((a : Int) + (b : Int)) = (n : Int) := by rw [IntKind.wrap_i64]; omega
  have HT := Aside0.mk hT
  have HR2 := Aside0.mk hr2
  have HC2 := Aside0.mk hc2
  have HA := Aside0.mk hid
  have H' := Aside0.mk h
  clear hT hr2 hc2 hid h
  go_enter Tryd.func7, Tryd.ntmps7
  go_upto_region 4 with (go_at_call 13; (with_reducible refine (doorCache.calls k a b n hn id er _ HT.out (by omega) q6 HA.out).mono ?_); rintro e' w1 ⟨gt, T0, rfl, p1, p2, p3, p4⟩; have HP1 := Aside0.mk p1; have HP2 := Aside0.mk p2; have HP3 := Aside0.mk p3; have HP4 := Aside0.mk p4; clear p1 p2 p3 p4)
  go_wp2
  go_loopg [8, 32] l2.length (fun kq v8 v32 w' => ∃ (i : Nat) (out : List S34) (T : List Nat → Option CNd), v32 = .int .i64 (i : Int) ∧ Aside0 (kq + i = l2.length) ∧ Aside0 (csF k (n : Int) (lookM T) out (l2.drop i) = some r) ∧ Aside0 (Cache w.heap.size w' n T) ∧ Aside0 (Root T gt) ∧ Aside0 (k34.R 34 w' w.heap.size (fun _ => True) v8 out) ∧ Aside0 (Below w.heap.size w w') ∧ Aside0 (out.length ≤ i))
  case atStart => exact ⟨0, [], T0, rfl, ⟨Nat.add_zero _⟩, ⟨by rw [show lookM T0 = fun s => if s = [] then id else [] from funext HP3.out]; exact H'.out⟩, HP1, HP2, ⟨Kd.R_nil _ _ _ _ _⟩, HP4, ⟨Nat.le_refl _⟩⟩
  case round =>
    clear H' HP1 HP2 HP3 HP4
    obtain ⟨i, out, T, rfl, HK, HF, HC, HRT, HO, HB, HOL⟩ := hrel
    -- ROUND
    cases gk with
    | zero =>
      have hi : i = l2.length := by have := HK.out; omega
      have hf := HF.out
      rw [hi, List.drop_length] at hf
      obtain rfl := Option.some.inj hf
      have n0 : ¬ (i : Int) < (l2.length : Int) := by omega
      have n0b := decide_eq_false n0
      clear hf
      go_wp2
      go_ret
      exact ⟨_, rfl, HO.out, HB.out⟩
    | succ k1 =>
      have hlt : i < l2.length := by have := HK.out; omega
      obtain ⟨s, hs⟩ : ∃ s, l2[i] = s := ⟨_, rfl⟩
      have hdr : l2.drop i = s :: l2.drop (i + 1) := by rw [← hs]; exact List.drop_eq_getElem_cons hlt
      have hrd : rd_T27 l2 (i : Int) = s := by unfold rd_T27; rw [Int.toNat_natCast, List.getD_eq_getElem?_getD, List.getElem?_eq_getElem hlt, hs]; rfl
      have p0 : (0 : Int) ≤ (i : Int) := Int.natCast_nonneg i
      have p1 : (i : Int) < (l2.length : Int) := Int.ofNat_lt.mpr hlt
      have p1b := decide_eq_true p1
      have ei : IntKind.i64.wrap ((i : Int) + 1) = (i : Int) + 1 := by rw [IntKind.wrap_i64]; have := HK.out; omega
      obtain ⟨ad, A3, c3, A4, c4, e, x0, x1, x2, l1, g1, l2_, g2⟩ := at_T27 (Kd.C_below HR2.out HB.out) (i : Int) p0 p1
      subst e
      rw [hrd] at x0 x1 x2 l1 g1 l2_ g2
      rw [Int.toNat_natCast] at x0 x1 x2
      have hf := HF.out
      rw [hdr, csF] at hf
      by_cases m0 : s.f1.length ≤ 2147483647
      case neg => rw [if_neg m0] at hf; cases hf
      rw [if_pos m0] at hf
      obtain ⟨ri, hri, hf⟩ := Option.bind_eq_some_iff.mp hf
      have HRI := Aside0.mk hri
      have HF := Aside0.mk hf
      have HG1 := Aside0.mk (And.intro l1 g1)
      have HG2 := Aside0.mk (And.intro l2_ g2)
      clear hri hf l1 g1 l2_ g2 hs hdr hrd
      go_upto_region 9 with (fail)
      have HB2 := Aside0.mk (show Below wr.heap.size wr ((wr.alloc (.cells #[.bool s.f0, .slice A3 s.f1.length c3, .slice A4 s.f2.length c4] 27)).alloc (.cells #[.bool false, .slice none 0 0] 34)) from below_alloc (below_alloc (Below.refl _ _) _) _)
      have HKS := Aside0.mk (show ((wr.alloc (.cells #[.bool s.f0, .slice A3 s.f1.length c3, .slice A4 s.f2.length c4] 27)).alloc (.cells #[.bool false, .slice none 0 0] 34)).heap[wr.heap.size]? = some (.cells #[.bool s.f0, .slice A3 s.f1.length c3, .slice A4 s.f2.length c4] 27 (0, 0)) from blk_alloc (blk_new wr _) _)
      have HKA := Aside0.mk (show ((wr.alloc (.cells #[.bool s.f0, .slice A3 s.f1.length c3, .slice A4 s.f2.length c4] 27)).alloc (.cells #[.bool false, .slice none 0 0] 34)).heap[wr.heap.size + 1]? = some (.cells #[.bool false, .slice none 0 0] 34 (0, 0)) from by have := blk_new (wr.alloc (.cells #[.bool s.f0, .slice A3 s.f1.length c3, .slice A4 s.f2.length c4] 27)) (.cells #[.bool false, .slice none 0 0] 34); rw [show (wr.alloc (.cells #[.bool s.f0, .slice A3 s.f1.length c3, .slice A4 s.f2.length c4] 27)).heap.size = wr.heap.size + 1 from Array.size_push _] at this; exact this)
      clear x0 x1 x2
      generalize (wr.alloc (.cells #[.bool s.f0, .slice A3 s.f1.length c3, .slice A4 s.f2.length c4] 27)).alloc (.cells #[.bool false, .slice none 0 0] 34) = w2 at *
      have HCw := Aside0.mk (HC.out.below HB2.out)
      have HOw := Aside0.mk (Kd.R_below (Kd.R_elderB HO.out (wr.heap.size + 1) (Nat.le_succ _)) HB2.out)
      have HGA := Aside0.mk (show w.heap.size ≤ wr.heap.size + 1 from Nat.le_succ_of_le HB.out.size)
      have HBw := Aside0.mk (below_step HB.out HB2.out)
      have HS1 := Aside0.mk (And.intro HG1.out.1 (Kd.C_below HG1.out.2 HB2.out))
      have HS2 := Aside0.mk (And.intro HG2.out.1 (Kd.C_below HG2.out.2 HB2.out))
      clear HG1 HG2 HC HO HB HB2
      generalize wr.heap.size + 1 = ga at *
      generalize wr.heap.size = gs at *
      have y0 : w2.cell? ⟨gs, 0, none⟩ = some (.bool s.f0) := (blk_cell HKS.out 0).trans rfl
      have y1 : w2.cell? ⟨gs, 1, none⟩ = some (.slice A3 s.f1.length c3) := (blk_cell HKS.out 1).trans rfl
      have hf := HF.out
      clear HF
      by_cases m1 : ri = true
      case neg =>
        rw [if_neg m1] at hf
        replace m1 := Bool.eq_false_iff.mpr m1
        subst m1
        have HFt := Aside0.mk hf
        clear hf
        go_upto_region 15 with (go_at_call 14; (with_reducible refine (impl_rising.calls k A3 c3 s.f1 (n : Int) false _ HS1.out.2 HS1.out.1 HRI.out).mono ?_); rintro e' w3 ⟨rfl, ⟨nd, rfl⟩⟩)
        have hb3 := pw_below_drewN (Below.refl w2.heap.size w2) nd
        have HCt := Aside0.mk (HCw.out.below hb3)
        have HRt := HRT
        have HOt := Aside0.mk (Kd.R_mono (ok' := fun _ => True) (Kd.R_below HOw.out hb3) (fun _ _ => trivial))
        have HBt := Aside0.mk (below_step HBw.out hb3)
        have HKt := Aside0.mk (blk_below HKA.out hb3)
        have HVt := Aside0.mk (show (Kd.slice 5 (Kd.int .u8)).R 32 (w2.drewN nd) w.heap.size (fun _ => True) (.slice none 0 0) [] from Kd.R_nil _ _ _ _ _)
        clear hb3 y0 y1
        generalize w2.drewN nd = w5 at *
        have z0 := (blk_cell HKt.out 0).trans (show _ = some (Value.bool false) from rfl)
        have z1 := (blk_cell HKt.out 1).trans (show _ = some (Value.slice none 0 0) from rfl)
        have HAL := Aside0.mk (show (out.length + 1) * 32 ≤ 140737488355328 by have := HOL.out; have := HK.out; omega)
        go_wp2_with ((with_reducible refine gate_builtin (b := .append) (xs := #[.tmp 76, .tmp 78]) rfl ?_); at_builtin; refine Kd.R_append k34 (w0 := w) w.heap.size rfl (.tmp 76) (.tmp 78) 30 34 (.agg #[.bool false, .slice none 0 0]) 32 rfl Tryd.underlying30 info_ans rfl (by decide) (by omega) u8 out (⟨false, []⟩ : S34) [.bool false, .slice none 0 0] (fun _ => True) (fun k_ => some k_ ≠ (u8 : Value).ownBlock) rfl rfl ?aP (fun _ hk => ⟨trivial, hk⟩) ?aF ?aO ?aB ?aS ?aL ?_; (case aP => exact k34_mkM _ _ _ (⟨false, []⟩ : S34) (Kd.R_mono (Kd.R_apart' HVt.out (Kd.R_typed HOt.out) (by decide)) (fun _ h_ => h_.2))); (case aB => exact HBt.out); (case aF => exact (fun _ _ => trivial)); (case aO => exact HOt.out); (case aS => exact HBt.out.size); (case aL => exact HAL.out); intro v8' w6 ho hb hg hat; have HO6 := Aside0.mk ho; have HB6 := Aside0.mk hb; have HG6 := Aside0.mk hg; clear ho hb hg hat)
        go_roundg k1
        case measure => omega
        case rel => exact ⟨i + 1, out ++ [⟨false, []⟩], T, (by rw [show ((i + 1 : Nat) : Int) = (i : Int) + 1 by omega]), ⟨by have := HK.out; omega⟩, HFt, ⟨HCt.out.grown HOt.out HG6.out⟩, HRt, HO6, HB6, ⟨by rw [List.length_append, List.length_singleton]; have := HOL.out; omega⟩⟩
      subst m1
      rw [if_pos rfl] at hf
      obtain ⟨hq1, hq2, hq3⟩ := rising_ris (sh := n) (by omega) m0 HRI.out
      have HGET := Aside0.mk (show ∀ (W : World) (A : Option Addr) (c : Nat), Cache w.heap.size W n T → Kd.C (Kd.int .i64) W A s.f1.length s.f1 → s.f1.length ≤ c → Calls Tryd.prog 15 #[.pointer (some ⟨gt, 0, none⟩), .slice A s.f1.length c] W fun e w' => e = .returned (look T (toN s.f1)) ∧ w' = W from fun W A c hC hA hc => by
        have h9 := treeGet.calls hC HRT.out (by omega) (toN s.f1) A c hq2 (by rw [hq1]; exact hA) (by rw [hq1]; exact hc) (by rw [toN, List.length_map]; omega)
        rw [hq1] at h9
        exact h9)
      by_cases m2 : s.f0 = true
      case neg =>
        rw [if_neg m2] at hf
        obtain ⟨y, hy, hf⟩ := Option.bind_eq_some_iff.mp hf
        have m2b : s.f0 = false := Bool.eq_false_iff.mpr m2
        rw [m2b] at y0
        have HY := Aside0.mk hy
        have HF := Aside0.mk hf
        clear hy hf
        go_upto_region 11 with (go_at_call 14; (with_reducible refine (impl_rising.calls k A3 c3 s.f1 (n : Int) true _ HS1.out.2 HS1.out.1 HRI.out).mono ?_); rintro e' w3 ⟨rfl, ⟨nd, rfl⟩⟩)
        have hb3 := pw_below_drewN (Below.refl w2.heap.size w2) nd
        have HB3 := Aside0.mk hb3
        clear hb3 y0 y1
        generalize w2.drewN nd = w3 at *
        have y1 : w3.cell? ⟨gs, 1, none⟩ = some (.slice A3 s.f1.length c3) := (blk_cell (blk_below HKS.out HB3.out) 1).trans rfl
        have HAL1 := Aside0.mk (show (([] : List Int).length + s.f1.length) * 8 ≤ 140737488355328 by rw [List.length_nil]; omega)
        go_upto_region 12 with (first | ((with_reducible refine gate_builtin (b := .append) (xs := #[.const (.slice none 0 0), .tmp 51]) rfl ?_); at_builtin; refine Kd.R_append_rows (Kd.int .i64) (w0 := w3) w3.heap.size rfl (.const (.slice none 0 0)) (.tmp 51) 24 3 (.int .i64 0) 8 rfl Tryd.underlying24 info_int rfl (by decide) (by omega) (.slice none 0 0) ([] : List Int) s.f1 _ _ _ (fun _ => True) (fun _ => False) rfl rfl ?aO ?aR (fun _ _ h => h) (fun _ h => h.elim) ?aF ?aB ?aS ?aL ?_; (case aR => exact Kd.C_below HS1.out.2 HB3.out); (case aB => exact Below.refl _ _); (case aF => exact (fun _ _ => trivial)); (case aO => exact Kd.R_nil _ _ _ _ _); (case aS => exact Nat.le_refl _); (case aL => have := HAL1.out; omega); intro v5 w4 ho hb hg hat; rw [List.nil_append] at ho; obtain ⟨A5, c5, e5⟩ := Kd.R_slice ho; subst e5; have HO5 := Aside0.mk (Kd.R_reads' ho).2; have HB4 := Aside0.mk hb; clear ho hb hg hat) | (go_at_call 15; (with_reducible refine (HGET.out _ A5 c5 ?s1 HO5.out.2 HO5.out.1).mono ?_); (case s1 => exact (HCw.out.below HB3.out).below HB4.out); rintro e' w4 ⟨rfl, rfl⟩))
        have HB5 := Aside0.mk (below_step HB3.out HB4.out : Below w2.heap.size w2 w4)
        have HC4 := Aside0.mk (HCw.out.below HB5.out)
        have HK4 := Aside0.mk (blk_below HKA.out HB5.out)
        have HLR := Aside0.mk (look_R HC4.out (toN s.f1))
        have hlf := look_form HC4.out (toN s.f1)
        clear y1 HB3 HB4 HO5 HGET
        rcases hlf with ⟨hm, hv⟩ | ⟨g, cg, hm, hv⟩
        · rw [hv]
          have HLR2 := Aside0.mk (show (Kd.slice 5 (Kd.int .u8)).R 32 w4 w.heap.size (fun _ => True) (.slice none (lookM T (toN s.f1)).length 0) (lookM T (toN s.f1)) from by rw [hm]; exact Kd.R_nil _ _ _ _ _)
          have hy := HY.out
          have hf := HF.out
          rw [hm] at hy hf
          rw [show decide (([] : List (List Int)) ≠ []) = false from by simp] at hf
          have HY := Aside0.mk hy
          have HFt := Aside0.mk hf
          clear hy hf hm hv
          have HLR2 := Aside0.mk (show 0 ≤ 0 ∧ Kd.C (Kd.slice 5 (Kd.int .u8)) w4 none ([] : List (List Int)).length [] from ⟨Nat.le_refl _, Kd.C_nil _ _⟩)
          go_upto_region 15 with (go_at_call 16; (refine (impl_rows.calls k none 0 ([] : List (List Int)) y _ HLR2.out.2 HLR2.out.1 HY.out).mono ?_); rintro e' w6 ⟨v6, rfl, ho, hb⟩; obtain ⟨A6, c6, e6⟩ := Kd.S_slice ho; subst e6; have HO6 := Aside0.mk (Kd.R_lower (Kd.S_R ho) (below_step HBw.out HB5.out).size); have HB6 := Aside0.mk hb; have hk6 := blk_below HK4.out hb; have HK6 := Aside0.mk hk6; have fz0 := blk_frozen hk6 0; have fz1 := blk_frozen hk6 1; have cl0 := (blk_cell hk6 0).trans (show _ = some (Value.bool false) from rfl); have cl1 := (blk_cell hk6 1).trans (show _ = some (Value.slice none 0 0) from rfl); clear ho hb hk6)
          have hk7 := blk_put HK6.out 0 (.bool false) rfl
          have hk8 := blk_put hk7 1 (.slice A6 y.length c6) rfl
          have HKt := Aside0.mk hk8
          have HCt := Aside0.mk (((HC4.out.below HB6.out).put34 HK6.out 0 (.bool false)).put34 hk7 1 (.slice A6 y.length c6))
          have HRt := HRT
          have HOt := Aside0.mk (Kd.R_mono (ok' := fun _ => True) (Kd.R_far (p := ⟨ga, 1, none⟩) (Kd.R_far (p := ⟨ga, 0, none⟩) (Kd.R_below (Kd.R_below HOw.out HB5.out) HB6.out) (fun _ h_ => h_.2) (.bool false)) (fun _ h_ => h_.2) (.slice A6 y.length c6)) (fun _ _ => trivial))
          have HBt := Aside0.mk (((below_step (below_step HBw.out HB5.out) HB6.out).setCell (p := ⟨ga, 0, none⟩) HGA.out (.bool false)).setCell (p := ⟨ga, 1, none⟩) HGA.out (.slice A6 y.length c6))
          have HVt := Aside0.mk (Kd.R_set (Kd.R_set HO6.out HK6.out (by decide) 0 (.bool false)) hk7 (by decide) 1 (.slice A6 y.length c6))
          clear hk7 hk8 cl0 cl1 fz0 fz1
          generalize (w6.setCell ⟨ga, 0, none⟩ (.bool false)).setCell ⟨ga, 1, none⟩ (.slice A6 y.length c6) = w5 at *
          have z0 := (blk_cell HKt.out 0).trans (show _ = some (Value.bool false) from rfl)
          have z1 := (blk_cell HKt.out 1).trans (show _ = some (Value.slice A6 y.length c6) from rfl)
          have HAL := Aside0.mk (show (out.length + 1) * 32 ≤ 140737488355328 by have := HOL.out; have := HK.out; omega)
          go_wp2_with ((with_reducible refine gate_builtin (b := .append) (xs := #[.tmp 76, .tmp 78]) rfl ?_); at_builtin; refine Kd.R_append k34 (w0 := w) w.heap.size rfl (.tmp 76) (.tmp 78) 30 34 (.agg #[.bool false, .slice none 0 0]) 32 rfl Tryd.underlying30 info_ans rfl (by decide) (by omega) u8 out (⟨false, y⟩ : S34) [.bool false, .slice A6 y.length c6] (fun _ => True) (fun k_ => some k_ ≠ (u8 : Value).ownBlock) rfl rfl ?aP (fun _ hk => ⟨trivial, hk⟩) ?aF ?aO ?aB ?aS ?aL ?_; (case aP => exact k34_mkM _ _ _ (⟨false, y⟩ : S34) (Kd.R_mono (Kd.R_apart' HVt.out (Kd.R_typed HOt.out) (by decide)) (fun _ h_ => h_.2))); (case aB => exact HBt.out); (case aF => exact (fun _ _ => trivial)); (case aO => exact HOt.out); (case aS => exact HBt.out.size); (case aL => exact HAL.out); intro v8' w6 ho hb hg hat; have HO6 := Aside0.mk ho; have HB6 := Aside0.mk hb; have HG6 := Aside0.mk hg; clear ho hb hg hat)
          go_roundg k1
          case measure => omega
          case rel => exact ⟨i + 1, out ++ [⟨false, y⟩], T, (by rw [show ((i + 1 : Nat) : Int) = (i : Int) + 1 by omega]), ⟨by have := HK.out; omega⟩, HFt, ⟨HCt.out.grown HOt.out HG6.out⟩, HRt, HO6, HB6, ⟨by rw [List.length_append, List.length_singleton]; have := HOL.out; omega⟩⟩
        · rw [hv]
          have HLR2 := Aside0.mk (show (Kd.slice 5 (Kd.int .u8)).R 32 w4 w.heap.size (fun _ => True) (.slice (some ⟨g, 0, none⟩) (lookM T (toN s.f1)).length cg) (lookM T (toN s.f1)) from by rw [← hv]; exact HLR.out)
          have hf := HF.out
          rw [decide_eq_true hm] at hf
          have HFt := Aside0.mk hf
          clear hf hm hv
          go_upto_region 15 with (go_at_call 16; (refine (impl_rows.calls k (some ⟨g, 0, none⟩) cg (lookM T (toN s.f1)) y _ (Kd.R_reads' HLR2.out).2.2 (Kd.R_reads' HLR2.out).2.1 HY.out).mono ?_); rintro e' w6 ⟨v6, rfl, ho, hb⟩; obtain ⟨A6, c6, e6⟩ := Kd.S_slice ho; subst e6; have HO6 := Aside0.mk (Kd.R_lower (Kd.S_R ho) (below_step HBw.out HB5.out).size); have HB6 := Aside0.mk hb; have hk6 := blk_below HK4.out hb; have HK6 := Aside0.mk hk6; have fz0 := blk_frozen hk6 0; have fz1 := blk_frozen hk6 1; have cl0 := (blk_cell hk6 0).trans (show _ = some (Value.bool false) from rfl); have cl1 := (blk_cell hk6 1).trans (show _ = some (Value.slice none 0 0) from rfl); clear ho hb hk6)
          have hk7 := blk_put HK6.out 0 (.bool true) rfl
          have hk8 := blk_put hk7 1 (.slice A6 y.length c6) rfl
          have HKt := Aside0.mk hk8
          have HCt := Aside0.mk (((HC4.out.below HB6.out).put34 HK6.out 0 (.bool true)).put34 hk7 1 (.slice A6 y.length c6))
          have HRt := HRT
          have HOt := Aside0.mk (Kd.R_mono (ok' := fun _ => True) (Kd.R_far (p := ⟨ga, 1, none⟩) (Kd.R_far (p := ⟨ga, 0, none⟩) (Kd.R_below (Kd.R_below HOw.out HB5.out) HB6.out) (fun _ h_ => h_.2) (.bool true)) (fun _ h_ => h_.2) (.slice A6 y.length c6)) (fun _ _ => trivial))
          have HBt := Aside0.mk (((below_step (below_step HBw.out HB5.out) HB6.out).setCell (p := ⟨ga, 0, none⟩) HGA.out (.bool true)).setCell (p := ⟨ga, 1, none⟩) HGA.out (.slice A6 y.length c6))
          have HVt := Aside0.mk (Kd.R_set (Kd.R_set HO6.out HK6.out (by decide) 0 (.bool true)) hk7 (by decide) 1 (.slice A6 y.length c6))
          clear hk7 hk8 cl0 cl1 fz0 fz1
          generalize (w6.setCell ⟨ga, 0, none⟩ (.bool true)).setCell ⟨ga, 1, none⟩ (.slice A6 y.length c6) = w5 at *
          have z0 := (blk_cell HKt.out 0).trans (show _ = some (Value.bool true) from rfl)
          have z1 := (blk_cell HKt.out 1).trans (show _ = some (Value.slice A6 y.length c6) from rfl)
          have HAL := Aside0.mk (show (out.length + 1) * 32 ≤ 140737488355328 by have := HOL.out; have := HK.out; omega)
          go_wp2_with ((with_reducible refine gate_builtin (b := .append) (xs := #[.tmp 76, .tmp 78]) rfl ?_); at_builtin; refine Kd.R_append k34 (w0 := w) w.heap.size rfl (.tmp 76) (.tmp 78) 30 34 (.agg #[.bool false, .slice none 0 0]) 32 rfl Tryd.underlying30 info_ans rfl (by decide) (by omega) u8 out (⟨true, y⟩ : S34) [.bool true, .slice A6 y.length c6] (fun _ => True) (fun k_ => some k_ ≠ (u8 : Value).ownBlock) rfl rfl ?aP (fun _ hk => ⟨trivial, hk⟩) ?aF ?aO ?aB ?aS ?aL ?_; (case aP => exact k34_mkM _ _ _ (⟨true, y⟩ : S34) (Kd.R_mono (Kd.R_apart' HVt.out (Kd.R_typed HOt.out) (by decide)) (fun _ h_ => h_.2))); (case aB => exact HBt.out); (case aF => exact (fun _ _ => trivial)); (case aO => exact HOt.out); (case aS => exact HBt.out.size); (case aL => exact HAL.out); intro v8' w6 ho hb hg hat; have HO6 := Aside0.mk ho; have HB6 := Aside0.mk hb; have HG6 := Aside0.mk hg; clear ho hb hg hat)
          go_roundg k1
          case measure => omega
          case rel => exact ⟨i + 1, out ++ [⟨true, y⟩], T, (by rw [show ((i + 1 : Nat) : Int) = (i : Int) + 1 by omega]), ⟨by have := HK.out; omega⟩, HFt, ⟨HCt.out.grown HOt.out HG6.out⟩, HRt, HO6, HB6, ⟨by rw [List.length_append, List.length_singleton]; have := HOL.out; omega⟩⟩
      rw [if_pos m2] at hf
      obtain ⟨im, him, hf⟩ := Option.bind_eq_some_iff.mp hf
      have HIM := Aside0.mk him
      clear him
      rw [m2] at y0
      go_upto_region 10 with (go_at_call 14; (with_reducible refine (impl_rising.calls k A3 c3 s.f1 (n : Int) true _ HS1.out.2 HS1.out.1 HRI.out).mono ?_); rintro e' w3 ⟨rfl, ⟨nd, rfl⟩⟩)
      have hb3 := pw_below_drewN (Below.refl w2.heap.size w2) nd
      have HCv := Aside0.mk (HCw.out.below hb3)
      have HOv := Aside0.mk (Kd.R_below HOw.out hb3)
      have HBv := Aside0.mk (below_step HBw.out hb3)
      have HKv := Aside0.mk (blk_below HKA.out hb3)
      have HKSv := Aside0.mk (blk_below HKS.out hb3)
      have HS1v := Aside0.mk (And.intro HS1.out.1 (Kd.C_below HS1.out.2 hb3))
      have HS2v := Aside0.mk (And.intro HS2.out.1 (Kd.C_below HS2.out.2 hb3))
      clear hb3 y0 y1
      generalize w2.drewN nd = w3 at *
      have y0 : w3.cell? ⟨gs, 0, none⟩ = some (.bool true) := (blk_cell HKSv.out 0).trans (by rw [← m2]; rfl)
      have y1 : w3.cell? ⟨gs, 1, none⟩ = some (.slice A3 s.f1.length c3) := (blk_cell HKSv.out 1).trans rfl
      have y2 : w3.cell? ⟨gs, 2, none⟩ = some (.slice A4 s.f2.length c4) := (blk_cell HKSv.out 2).trans rfl
      by_cases m3 : im = true
      case neg =>
        rw [if_neg m3] at hf
        replace m3 := Bool.eq_false_iff.mpr m3
        subst m3
        have HFt := Aside0.mk hf
        clear hf
        go_upto_region 15 with (go_at_call 17; (with_reducible refine (impl_isMatrix.calls k A4 c4 s.f2 false _ (TabOK.below HT.out HBv.out) HS2v.out.2 HS2v.out.1 HIM.out).mono ?_); rintro e' w4 ⟨rfl, ⟨nd2, rfl⟩⟩)
        have hb4 := pw_below_drewN (Below.refl w3.heap.size w3) nd2
        have HCt := Aside0.mk (HCv.out.below hb4)
        have HRt := HRT
        have HOt := Aside0.mk (Kd.R_mono (ok' := fun _ => True) (Kd.R_below HOv.out hb4) (fun _ _ => trivial))
        have HBt := Aside0.mk (below_step HBv.out hb4)
        have HKt := Aside0.mk (blk_below HKv.out hb4)
        have HVt := Aside0.mk (show (Kd.slice 5 (Kd.int .u8)).R 32 (w3.drewN nd2) w.heap.size (fun _ => True) (.slice none 0 0) [] from Kd.R_nil _ _ _ _ _)
        clear hb4 y0 y1 y2
        generalize w3.drewN nd2 = w5 at *
        have z0 := (blk_cell HKt.out 0).trans (show _ = some (Value.bool false) from rfl)
        have z1 := (blk_cell HKt.out 1).trans (show _ = some (Value.slice none 0 0) from rfl)
        have HAL := Aside0.mk (show (out.length + 1) * 32 ≤ 140737488355328 by have := HOL.out; have := HK.out; omega)
        go_wp2_with ((with_reducible refine gate_builtin (b := .append) (xs := #[.tmp 76, .tmp 78]) rfl ?_); at_builtin; refine Kd.R_append k34 (w0 := w) w.heap.size rfl (.tmp 76) (.tmp 78) 30 34 (.agg #[.bool false, .slice none 0 0]) 32 rfl Tryd.underlying30 info_ans rfl (by decide) (by omega) u8 out (⟨false, []⟩ : S34) [.bool false, .slice none 0 0] (fun _ => True) (fun k_ => some k_ ≠ (u8 : Value).ownBlock) rfl rfl ?aP (fun _ hk => ⟨trivial, hk⟩) ?aF ?aO ?aB ?aS ?aL ?_; (case aP => exact k34_mkM _ _ _ (⟨false, []⟩ : S34) (Kd.R_mono (Kd.R_apart' HVt.out (Kd.R_typed HOt.out) (by decide)) (fun _ h_ => h_.2))); (case aB => exact HBt.out); (case aF => exact (fun _ _ => trivial)); (case aO => exact HOt.out); (case aS => exact HBt.out.size); (case aL => exact HAL.out); intro v8' w6 ho hb hg hat; have HO6 := Aside0.mk ho; have HB6 := Aside0.mk hb; have HG6 := Aside0.mk hg; clear ho hb hg hat)
        go_roundg k1
        case measure => omega
        case rel => exact ⟨i + 1, out ++ [⟨false, []⟩], T, (by rw [show ((i + 1 : Nat) : Int) = (i : Int) + 1 by omega]), ⟨by have := HK.out; omega⟩, HFt, ⟨HCt.out.grown HOt.out HG6.out⟩, HRt, HO6, HB6, ⟨by rw [List.length_append, List.length_singleton]; have := HOL.out; omega⟩⟩
      subst m3
      rw [if_pos rfl] at hf
      obtain ⟨m, hrow, hf⟩ := Option.bind_eq_some_iff.mp hf
      obtain ⟨sq, hsq, hf⟩ := Option.bind_eq_some_iff.mp hf
      have HROW := Aside0.mk hrow
      have HSQ := Aside0.mk hsq
      clear hrow hsq
      go_upto_region 14 with (go_at_call 17; (with_reducible refine (impl_isMatrix.calls k A4 c4 s.f2 true _ (TabOK.below HT.out HBv.out) HS2v.out.2 HS2v.out.1 HIM.out).mono ?_); rintro e' w4 ⟨rfl, ⟨nd2, rfl⟩⟩)
      have hb4 := pw_below_drewN (Below.refl w3.heap.size w3) nd2
      have HCx := Aside0.mk (HCv.out.below hb4)
      have HOx := Aside0.mk (Kd.R_below HOv.out hb4)
      have HBx := Aside0.mk (below_step HBv.out hb4)
      have HKx := Aside0.mk (blk_below HKv.out hb4)
      have HKSx := Aside0.mk (blk_below HKSv.out hb4)
      have HS1x := Aside0.mk (And.intro HS1v.out.1 (Kd.C_below HS1v.out.2 hb4))
      have HS2x := Aside0.mk (And.intro HS2v.out.1 (Kd.C_below HS2v.out.2 hb4))
      clear hb4 y0 y1 y2
      generalize w3.drewN nd2 = w4 at *
      have HTx := Aside0.mk (TabOK.below HT.out HBx.out)
      have HAL1 := Aside0.mk (show (([] : List Int).length + s.f1.length) * 8 ≤ 140737488355328 by rw [List.length_nil]; omega)
      have HINS := Aside0.mk (show ∀ (W : World) (A Am : Option Addr) (c cm : Nat), TabOK W → Cache w.heap.size W n T → w.heap.size ≤ W.heap.size → (Kd.int .i64).R 3 W w4.heap.size (fun _ => True) (.slice A s.f1.length c) s.f1 → (Kd.slice 5 (Kd.int .u8)).R 32 W w.heap.size (fun _ => True) (.slice Am m.length cm) m → Calls Tryd.prog 18 #[.pointer (some ⟨gt, 0, none⟩), .slice A s.f1.length c, .slice Am m.length cm, .int .i64 (n : Int)] W (InsPost w.heap.size n gt T (toN s.f1) sq m W) from fun W A Am c cm hTw hCw hBw hA hM => by
        have h9 := treeInsert.calls hTw hCw HRT.out hBw (by omega) (toN s.f1) A Am c cm hq2 (fun hne => by rw [hq1]; exact ints_own hA (fun h => hne (by rw [h]; rfl))) (by rw [hq1]; exact (Kd.R_reads' hA).2.1) (by rw [toN, List.length_map]; omega) hM HSQ.out
        rw [hq1] at h9
        exact h9)
      have y1 : w4.cell? ⟨gs, 1, none⟩ = some (.slice A3 s.f1.length c3) := (blk_cell HKSx.out 1).trans rfl
      have y2 : w4.cell? ⟨gs, 2, none⟩ = some (.slice A4 s.f2.length c4) := (blk_cell HKSx.out 2).trans rfl
      clear HCv HOv HBv HKv HKSv HS1v HS2v HCw HOw HBw HKA HKS HS1 HS2 HGET HRI HIM
      by_cases m4 : toN s.f1 ≠ [] ∧ sq = true
      · rw [if_pos m4] at hf
        have HF9 := Aside0.mk hf
        clear hf
        go_region_held3 (fun w' => w'.cell? ⟨gs, 1, none⟩ = some (.slice A3 s.f1.length c3) ∧ w'.cell? ⟨gs, 2, none⟩ = some (.slice A4 s.f2.length c4)) (first | (with_reducible first | exact HSi.out | exact HSm.out | exact HSa.out | exact ⟨(cell_far (blk_ne HKS7.out HK7.out (by decide)) _).trans HSi.out.1, (cell_far (blk_ne HKS7.out HK7.out (by decide)) _).trans HSi.out.2⟩) | exact HSm.out | exact HSa.out | go_keep)
          (first | (refine Kd.R_append_rows_step (Kd.int .i64) (w0 := w4) w4.heap.size ?hw (.const (.slice none 0 0)) (.tmp 65) 24 3 (.int .i64 0) 8 rfl Tryd.underlying24 info_int (by rfl) (by decide) (by omega) (.slice none 0 0) [] s.f1 A3 s.f1.length c3 (fun _ => True) (fun _ => False) rfl rfl ?aO ?aR (fun _ _ h => h) (fun _ h => h.elim) (fun _ _ => trivial) ?aB ?aS ?aL ?_; (case hw => rfl); (case aR => first | exact Kd.C_drew HS1x.out.2 | exact Kd.C_below HS1x.out.2 HBm.out); (case aB => first | exact below_drew (Below.refl _ _) | exact HBm.out); (case aO => exact Kd.R_nil _ _ _ _ _); (case aS => first | exact Nat.le_refl _ | exact HBm.out.size); (case aL => have := HAL1.out; omega); intro v5 w5 ho hb hg hat; rw [List.nil_append] at ho; obtain ⟨A5, c5, e5⟩ := Kd.R_slice ho; subst e5; have HI := Aside0.mk ho; have HBa := Aside0.mk hb; (first | (have HM2 := Aside0.mk (Kd.R_grown HM.out hg (fun k _ h => by simp [Value.ownBlock] at h))) | skip); have HSa := Aside0.mk (And.intro ((blk_cell (blk_below HKSx.out HBa.out) 1).trans (show _ = some (Value.slice A3 s.f1.length c3) from rfl)) ((blk_cell (blk_below HKSx.out HBa.out) 2).trans (show _ = some (Value.slice A4 s.f2.length c4) from rfl))); clear ho hb hg hat) | (go_at_call 16; (refine (impl_rows.calls k A4 c4 s.f2 m _ ?s1 HS2x.out.1 HROW.out).mono ?_); (case s1 => first | exact Kd.C_drew HS2x.out.2 | exact Kd.C_below HS2x.out.2 HBa.out); rintro e' w6 ⟨v6, rfl, ho, hb⟩; obtain ⟨A6, c6, e6⟩ := Kd.S_slice ho; subst e6; have HM := Aside0.mk (Kd.R_lower (Kd.S_R ho) (by first | exact HBx.out.size | exact Nat.le_trans HBx.out.size HBa.out.size)); have HBm := Aside0.mk (below_step (by (with_reducible first | exact HBa.out | exact below_drew (Below.refl w4.heap.size w4))) hb : Below w4.heap.size w4 w6); (first | (have HI2 := Aside0.mk (Kd.R_below HI.out hb)) | skip); have HSm := Aside0.mk (And.intro ((blk_cell (blk_below HKSx.out HBm.out) 1).trans (show _ = some (Value.slice A3 s.f1.length c3) from rfl)) ((blk_cell (blk_below HKSx.out HBm.out) 2).trans (show _ = some (Value.slice A4 s.f2.length c4) from rfl))); clear ho hb) | (go_at_call 18; (first | ((refine (HINS.out _ A5 A6 c5 c6 (HTx.out.below HBm.out) (HCx.out.below HBm.out) (Nat.le_trans HBx.out.size HBm.out.size) HI2.out HM.out).mono ?_); rintro e' w7 ⟨ev, T', rfl, p1, p2, p3, p4, p5⟩; rw [if_pos m4] at p5; obtain ⟨rfl, hM⟩ := p5; have HP1 := Aside0.mk p1; have HP2 := Aside0.mk p2; have HP3 := Aside0.mk ((below_step HBx.out HBm.out).trans p3); have HPO := Aside0.mk (p4.R (Kd.R_below HOx.out HBm.out) (by decide)); have HPM := Aside0.mk hM; have hk7 := p4.2 _ _ _ (blk_below HKx.out HBm.out) (by decide) (by decide) (by decide); have hks7 := p4.2 _ _ _ (blk_below HKSx.out HBm.out) (by decide) (by decide) (by decide); have HK7 := Aside0.mk hk7; have HKS7 := Aside0.mk hks7; have fz0 := blk_frozen hk7 0; have cl0 := (blk_cell hk7 0).trans (show _ = some (Value.bool false) from rfl); have HSi := Aside0.mk (And.intro ((blk_cell hks7 1).trans (show _ = some (Value.slice A3 s.f1.length c3) from rfl)) ((blk_cell hks7 2).trans (show _ = some (Value.slice A4 s.f2.length c4) from rfl))); clear p1 p2 p3 p4 hM hk7 hks7) | ((refine (HINS.out _ A5 A6 c5 c6 (HTx.out.below HBa.out) (HCx.out.below HBa.out) (Nat.le_trans HBx.out.size HBa.out.size) HI.out HM2.out).mono ?_); rintro e' w7 ⟨ev, T', rfl, p1, p2, p3, p4, p5⟩; rw [if_pos m4] at p5; obtain ⟨rfl, hM⟩ := p5; have HP1 := Aside0.mk p1; have HP2 := Aside0.mk p2; have HP3 := Aside0.mk ((below_step HBx.out HBa.out).trans p3); have HPO := Aside0.mk (p4.R (Kd.R_below HOx.out HBa.out) (by decide)); have HPM := Aside0.mk hM; have hk7 := p4.2 _ _ _ (blk_below HKx.out HBa.out) (by decide) (by decide) (by decide); have hks7 := p4.2 _ _ _ (blk_below HKSx.out HBa.out) (by decide) (by decide) (by decide); have HK7 := Aside0.mk hk7; have HKS7 := Aside0.mk hks7; have fz0 := blk_frozen hk7 0; have cl0 := (blk_cell hk7 0).trans (show _ = some (Value.bool false) from rfl); have HSi := Aside0.mk (And.intro ((blk_cell hks7 1).trans (show _ = some (Value.slice A3 s.f1.length c3) from rfl)) ((blk_cell hks7 2).trans (show _ = some (Value.slice A4 s.f2.length c4) from rfl))); clear p1 p2 p3 p4 hM hk7 hks7))))
        all_goals
          have HKt := Aside0.mk (blk_put HK7.out 0 (.bool true) rfl)
          have HCt := Aside0.mk (HP1.out.put34 HK7.out 0 (.bool true))
          have HRt := HP2
          have HOt := Aside0.mk (Kd.R_mono (ok' := fun _ => True) (Kd.R_far (p := ⟨ga, 0, none⟩) HPO.out (fun _ h_ => h_.2) (.bool true)) (fun _ _ => trivial))
          have HBt := Aside0.mk (HP3.out.setCell (p := ⟨ga, 0, none⟩) HGA.out (.bool true))
          have HVt := Aside0.mk (show (Kd.slice 5 (Kd.int .u8)).R 32 (w7.setCell ⟨ga, 0, none⟩ (.bool true)) w.heap.size (fun _ => True) (.slice none 0 0) [] from Kd.R_nil _ _ _ _ _)
          have HFt := Aside0.mk (show csF k (n : Int) (lookM T') (out ++ [⟨true, []⟩]) (l2.drop (i + 1)) = some r from by rw [show lookM T' = _ from funext HPM.out]; exact HF9.out)
          clear y1 y2 cl0 fz0
          generalize w7.setCell ⟨ga, 0, none⟩ (.bool true) = w9 at *
          have z0 := (blk_cell HKt.out 0).trans (show _ = some (Value.bool true) from rfl)
          have z1 := (blk_cell HKt.out 1).trans (show _ = some (Value.slice none 0 0) from rfl)
          have HAL := Aside0.mk (show (out.length + 1) * 32 ≤ 140737488355328 by have := HOL.out; have := HK.out; omega)
          go_wp2_with ((with_reducible refine gate_builtin (b := .append) (xs := #[.tmp 76, .tmp 78]) rfl ?_); at_builtin; refine Kd.R_append k34 (w0 := w) w.heap.size rfl (.tmp 76) (.tmp 78) 30 34 (.agg #[.bool false, .slice none 0 0]) 32 rfl Tryd.underlying30 info_ans rfl (by decide) (by omega) u8 out (⟨true, []⟩ : S34) [.bool true, .slice none 0 0] (fun _ => True) (fun k_ => some k_ ≠ (u8 : Value).ownBlock) rfl rfl ?aP (fun _ hk => ⟨trivial, hk⟩) ?aF ?aO ?aB ?aS ?aL ?_; (case aP => exact k34_mkM _ _ _ (⟨true, []⟩ : S34) (Kd.R_mono (Kd.R_apart' HVt.out (Kd.R_typed HOt.out) (by decide)) (fun _ h_ => h_.2))); (case aB => exact HBt.out); (case aF => exact (fun _ _ => trivial)); (case aO => exact HOt.out); (case aS => exact HBt.out.size); (case aL => exact HAL.out); intro v8' w6 ho hb hg hat; have HO6 := Aside0.mk ho; have HB6 := Aside0.mk hb; have HG6 := Aside0.mk hg; clear ho hb hg hat)
          go_roundg k1
          case measure => omega
          case rel => exact ⟨i + 1, out ++ [⟨true, []⟩], T', (by rw [show ((i + 1 : Nat) : Int) = (i : Int) + 1 by omega]), ⟨by have := HK.out; omega⟩, HFt, ⟨HCt.out.grown HOt.out HG6.out⟩, HRt, HO6, HB6, ⟨by rw [List.length_append, List.length_singleton]; have := HOL.out; omega⟩⟩
      · rw [if_neg m4] at hf
        have HF9 := Aside0.mk hf
        clear hf
        go_region_held3 (fun w' => w'.cell? ⟨gs, 1, none⟩ = some (.slice A3 s.f1.length c3) ∧ w'.cell? ⟨gs, 2, none⟩ = some (.slice A4 s.f2.length c4)) (first | (with_reducible first | exact HSi.out | exact HSm.out | exact HSa.out | exact ⟨(cell_far (blk_ne HKS7.out HK7.out (by decide)) _).trans HSi.out.1, (cell_far (blk_ne HKS7.out HK7.out (by decide)) _).trans HSi.out.2⟩) | exact HSm.out | exact HSa.out | go_keep)
          (first | (refine Kd.R_append_rows_step (Kd.int .i64) (w0 := w4) w4.heap.size ?hw (.const (.slice none 0 0)) (.tmp 65) 24 3 (.int .i64 0) 8 rfl Tryd.underlying24 info_int (by rfl) (by decide) (by omega) (.slice none 0 0) [] s.f1 A3 s.f1.length c3 (fun _ => True) (fun _ => False) rfl rfl ?aO ?aR (fun _ _ h => h) (fun _ h => h.elim) (fun _ _ => trivial) ?aB ?aS ?aL ?_; (case hw => rfl); (case aR => first | exact Kd.C_drew HS1x.out.2 | exact Kd.C_below HS1x.out.2 HBm.out); (case aB => first | exact below_drew (Below.refl _ _) | exact HBm.out); (case aO => exact Kd.R_nil _ _ _ _ _); (case aS => first | exact Nat.le_refl _ | exact HBm.out.size); (case aL => have := HAL1.out; omega); intro v5 w5 ho hb hg hat; rw [List.nil_append] at ho; obtain ⟨A5, c5, e5⟩ := Kd.R_slice ho; subst e5; have HI := Aside0.mk ho; have HBa := Aside0.mk hb; (first | (have HM2 := Aside0.mk (Kd.R_grown HM.out hg (fun k _ h => by simp [Value.ownBlock] at h))) | skip); have HSa := Aside0.mk (And.intro ((blk_cell (blk_below HKSx.out HBa.out) 1).trans (show _ = some (Value.slice A3 s.f1.length c3) from rfl)) ((blk_cell (blk_below HKSx.out HBa.out) 2).trans (show _ = some (Value.slice A4 s.f2.length c4) from rfl))); clear ho hb hg hat) | (go_at_call 16; (refine (impl_rows.calls k A4 c4 s.f2 m _ ?s1 HS2x.out.1 HROW.out).mono ?_); (case s1 => first | exact Kd.C_drew HS2x.out.2 | exact Kd.C_below HS2x.out.2 HBa.out); rintro e' w6 ⟨v6, rfl, ho, hb⟩; obtain ⟨A6, c6, e6⟩ := Kd.S_slice ho; subst e6; have HM := Aside0.mk (Kd.R_lower (Kd.S_R ho) (by first | exact HBx.out.size | exact Nat.le_trans HBx.out.size HBa.out.size)); have HBm := Aside0.mk (below_step (by (with_reducible first | exact HBa.out | exact below_drew (Below.refl w4.heap.size w4))) hb : Below w4.heap.size w4 w6); (first | (have HI2 := Aside0.mk (Kd.R_below HI.out hb)) | skip); have HSm := Aside0.mk (And.intro ((blk_cell (blk_below HKSx.out HBm.out) 1).trans (show _ = some (Value.slice A3 s.f1.length c3) from rfl)) ((blk_cell (blk_below HKSx.out HBm.out) 2).trans (show _ = some (Value.slice A4 s.f2.length c4) from rfl))); clear ho hb) | (go_at_call 18; (first | ((refine (HINS.out _ A5 A6 c5 c6 (HTx.out.below HBm.out) (HCx.out.below HBm.out) (Nat.le_trans HBx.out.size HBm.out.size) HI2.out HM.out).mono ?_); rintro e' w7 ⟨ev, T', rfl, p1, p2, p3, p4, p5⟩; rw [if_neg m4] at p5; obtain ⟨⟨tt, xx, rfl⟩, hM⟩ := p5; have HP1 := Aside0.mk p1; have HP2 := Aside0.mk p2; have HP3 := Aside0.mk ((below_step HBx.out HBm.out).trans p3); have HPO := Aside0.mk (p4.R (Kd.R_below HOx.out HBm.out) (by decide)); have HPM := Aside0.mk hM; have hk7 := p4.2 _ _ _ (blk_below HKx.out HBm.out) (by decide) (by decide) (by decide); have hks7 := p4.2 _ _ _ (blk_below HKSx.out HBm.out) (by decide) (by decide) (by decide); have HK7 := Aside0.mk hk7; have HKS7 := Aside0.mk hks7; have fz0 := blk_frozen hk7 0; have cl0 := (blk_cell hk7 0).trans (show _ = some (Value.bool false) from rfl); have HSi := Aside0.mk (And.intro ((blk_cell hks7 1).trans (show _ = some (Value.slice A3 s.f1.length c3) from rfl)) ((blk_cell hks7 2).trans (show _ = some (Value.slice A4 s.f2.length c4) from rfl))); clear p1 p2 p3 p4 hM hk7 hks7) | ((refine (HINS.out _ A5 A6 c5 c6 (HTx.out.below HBa.out) (HCx.out.below HBa.out) (Nat.le_trans HBx.out.size HBa.out.size) HI.out HM2.out).mono ?_); rintro e' w7 ⟨ev, T', rfl, p1, p2, p3, p4, p5⟩; rw [if_neg m4] at p5; obtain ⟨⟨tt, xx, rfl⟩, hM⟩ := p5; have HP1 := Aside0.mk p1; have HP2 := Aside0.mk p2; have HP3 := Aside0.mk ((below_step HBx.out HBa.out).trans p3); have HPO := Aside0.mk (p4.R (Kd.R_below HOx.out HBa.out) (by decide)); have HPM := Aside0.mk hM; have hk7 := p4.2 _ _ _ (blk_below HKx.out HBa.out) (by decide) (by decide) (by decide); have hks7 := p4.2 _ _ _ (blk_below HKSx.out HBa.out) (by decide) (by decide) (by decide); have HK7 := Aside0.mk hk7; have HKS7 := Aside0.mk hks7; have fz0 := blk_frozen hk7 0; have cl0 := (blk_cell hk7 0).trans (show _ = some (Value.bool false) from rfl); have HSi := Aside0.mk (And.intro ((blk_cell hks7 1).trans (show _ = some (Value.slice A3 s.f1.length c3) from rfl)) ((blk_cell hks7 2).trans (show _ = some (Value.slice A4 s.f2.length c4) from rfl))); clear p1 p2 p3 p4 hM hk7 hks7))))
        all_goals
          have HKt := Aside0.mk (blk_put HK7.out 0 (.bool false) rfl)
          have HCt := Aside0.mk (HP1.out.put34 HK7.out 0 (.bool false))
          have HRt := HP2
          have HOt := Aside0.mk (Kd.R_mono (ok' := fun _ => True) (Kd.R_far (p := ⟨ga, 0, none⟩) HPO.out (fun _ h_ => h_.2) (.bool false)) (fun _ _ => trivial))
          have HBt := Aside0.mk (HP3.out.setCell (p := ⟨ga, 0, none⟩) HGA.out (.bool false))
          have HVt := Aside0.mk (show (Kd.slice 5 (Kd.int .u8)).R 32 (w7.setCell ⟨ga, 0, none⟩ (.bool false)) w.heap.size (fun _ => True) (.slice none 0 0) [] from Kd.R_nil _ _ _ _ _)
          have HFt := Aside0.mk (show csF k (n : Int) (lookM T') (out ++ [⟨false, []⟩]) (l2.drop (i + 1)) = some r from by rw [show lookM T' = _ from funext HPM.out]; exact HF9.out)
          clear y1 y2 cl0 fz0
          generalize w7.setCell ⟨ga, 0, none⟩ (.bool false) = w9 at *
          have z0 := (blk_cell HKt.out 0).trans (show _ = some (Value.bool false) from rfl)
          have z1 := (blk_cell HKt.out 1).trans (show _ = some (Value.slice none 0 0) from rfl)
          have HAL := Aside0.mk (show (out.length + 1) * 32 ≤ 140737488355328 by have := HOL.out; have := HK.out; omega)
          go_wp2_with ((with_reducible refine gate_builtin (b := .append) (xs := #[.tmp 76, .tmp 78]) rfl ?_); at_builtin; refine Kd.R_append k34 (w0 := w) w.heap.size rfl (.tmp 76) (.tmp 78) 30 34 (.agg #[.bool false, .slice none 0 0]) 32 rfl Tryd.underlying30 info_ans rfl (by decide) (by omega) u8 out (⟨false, []⟩ : S34) [.bool false, .slice none 0 0] (fun _ => True) (fun k_ => some k_ ≠ (u8 : Value).ownBlock) rfl rfl ?aP (fun _ hk => ⟨trivial, hk⟩) ?aF ?aO ?aB ?aS ?aL ?_; (case aP => exact k34_mkM _ _ _ (⟨false, []⟩ : S34) (Kd.R_mono (Kd.R_apart' HVt.out (Kd.R_typed HOt.out) (by decide)) (fun _ h_ => h_.2))); (case aB => exact HBt.out); (case aF => exact (fun _ _ => trivial)); (case aO => exact HOt.out); (case aS => exact HBt.out.size); (case aL => exact HAL.out); intro v8' w6 ho hb hg hat; have HO6 := Aside0.mk ho; have HB6 := Aside0.mk hb; have HG6 := Aside0.mk hg; clear ho hb hg hat)
          go_roundg k1
          case measure => omega
          case rel => exact ⟨i + 1, out ++ [⟨false, []⟩], T', (by rw [show ((i + 1 : Nat) : Int) = (i : Int) + 1 by omega]), ⟨by have := HK.out; omega⟩, HFt, ⟨HCt.out.grown HOt.out HG6.out⟩, HRt, HO6, HB6, ⟨by rw [List.length_append, List.length_singleton]; have := HOL.out; omega⟩⟩
end Go.Proofs.YtlfmplhleglibaaDoor.M
