/- The law's walk: printed (with 'want = was.Matrix' as a call of Unit), then that place by hand. -/
import Derived.Test.YtlfmplhleglibaaDoorCacheF
namespace Go.Proofs.YtlfmplhleglibaaDoor.M
open Go Go.RowKit Go.Proofs.YtlfmplhleglibaaDoorW.PrintWords Go.Proofs.YtlfmplhleglibaaDoorW.PrintLast Go.Proofs.YtlfmplhleglibaaDoorW.PrintMore
attribute [local go_sem] max2_int min2_int max_two min_two max_three min_three max_four min_four
set_option linter.unusedVariables false
set_option linter.unusedSimpArgs false
/-- A slice of the memory that was there at the start, or one that was made. -/
def Mx {α : Type} (w : World) (d : Kd α) (e : Nat) (W : World) (base : Nat) (ok : Nat → Prop) (v : Value) (xs : List α) : Prop := (∃ A c, v = .slice A xs.length c ∧ xs.length ≤ c ∧ d.C w A xs.length xs) ∨ Kd.S d e W base ok v xs
section
variable {α : Type} {w W W' : World} {d : Kd α} {e base : Nat} {ok ok' : Nat → Prop} {v : Value} {xs : List α}
theorem Mx_mono (h : Mx w d e W base ok v xs) (hok : ∀ k, ok k → ok' k) : Mx w d e W base ok' v xs := h.imp_right (Kd.S_mono · hok)
theorem Mx_below (h : Mx w d e W base ok v xs) (hb : Below W.heap.size W W') : Mx w d e W' base ok v xs := h.imp_right (Kd.S_below · hb)
theorem Mx_alloc (h : Mx w d e W base ok v xs) (o : Obj) : Mx w d e (W.alloc o) base ok v xs := h.imp_right (Kd.S_alloc · o)
theorem Mx_drew (h : Mx w d e W base ok v xs) : Mx w d e W.drew base ok v xs := h.imp_right Kd.S_drew
theorem Mx_drewN (h : Mx w d e W base ok v xs) (m : Nat) : Mx w d e (W.drewN m) base ok v xs := h.imp_right (Kd.S_drewN · m)
theorem Mx_far (h : Mx w d e W base ok v xs) {p : Addr} (hok : ∀ k, ok k → k ≠ p.block) (u : Value) : Mx w d e (W.setCell p u) base ok v xs := h.imp_right (Kd.S_far · hok u)
theorem Mx_types (h : Mx w d e W base ok v xs) {g t : Nat} {cells : Array Value} (hb : W.heap[g]? = some (.cells cells t (0, 0))) (ht : ∀ q, q ∈ e :: d.E → q ≠ t) : Mx w d e W base (fun k => ok k ∧ k ≠ g) v xs := h.imp_right (Kd.S_types · hb ht)
theorem Mx_slice (h : Mx w d e W base ok v xs) : ∃ A c, v = .slice A xs.length c := by
  rcases h with ⟨A, c, hv, _, _⟩ | h
  · exact ⟨A, c, hv⟩
  · exact Kd.S_slice h
theorem Mx_reads {A : Option Addr} {n c : Nat} (h : Mx w d e W base ok (.slice A n c) xs) (hb : Below w.heap.size w W) : n = xs.length ∧ n ≤ c ∧ d.C W A xs.length xs := by
  rcases h with ⟨A', c', hv, hc, hC⟩ | h
  · injection hv with h1 h2 h3
    subst h1 h2 h3
    exact ⟨rfl, hc, Kd.C_below hC hb⟩
  · exact Kd.S_reads' h
end
theorem info27 : (Tryd.prog.info? 27).map (fun i => (i.zero, i.size, i.bytes)) = some (some (.agg #[.bool false, .slice none 0 0, .slice none 0 0]), 3, 56) := by kernel_rfl
mutual
def laws_FnCache.j0 : Nat → Int → Int → List (S27) → Bool → Option (Bool)
  | 0, _, _, _, _ => none
  | k + 1, x0, x1, x2, x37 => if x37 = true then (some true) else (laws_FnCache.l0 k x0 x1 x2 x2 (x2.length : Int) 0)
def laws_FnCache.l0 : Nat → Int → Int → List (S27) → List (S27) → Int → Int → Option (Bool)
  | 0, _, _, _, _, _, _ => none
  | k + 1, x0, x1, x2, x38, x39, x40 => if x40 < x39 then (if 0 ≤ x40 then (if x40 < (x38.length : Int) then ((laws_distinct.f k ((rd_T27 x38 x40).f1) (wrap64 (x0 + x1))).bind fun t171 => (if t171 = true then (if (((rd_T27 x38 x40).f2).length : Int) > 12 then (some true) else (if (rd_T27 x38 x40).f0 = true then ((spec_Rectangular.f k ((rd_T27 x38 x40).f2)).bind fun t172 => (if t172 = true then (laws_FnCache.l0 k x0 x1 x2 x38 x39 (wrap64 (x40 + 1))) else (some true))) else (laws_FnCache.l0 k x0 x1 x2 x38 x39 (wrap64 (x40 + 1))))) else (some true))) else (none)) else (none)) else ((impl_CacheScript.f k x0 x1 x2).bind fun t173 => (if (t173.length : Int) = (x2.length : Int) then (laws_FnCache.l1 k x0 x2 t173 x2 (x2.length : Int) 0) else (some false)))
def laws_FnCache.l1 : Nat → Int → List (S27) → List (S34) → List (S27) → Int → Int → Option (Bool)
  | 0, _, _, _, _, _, _ => none
  | k + 1, x0, x2, x9, x77, x78, x79 => if x79 < x78 then (if 0 ≤ x79 then (if x79 < (x77.length : Int) then (if (((rd_T27 x77 x79).f1).length : Int) > 0 then (if (((rd_T27 x77 x79).f2).length : Int) > 0 then (if 0 < (((rd_T27 x77 x79).f2).length : Int) then (laws_FnCache.j3 k x0 x2 x9 x79 ((((rd_T27 x77 x79).f2).length : Int) == ((rd_L1 ((rd_T27 x77 x79).f2) 0).length : Int)) x77 x78 x79 ((rd_T27 x77 x79).f0) ((rd_T27 x77 x79).f1) ((rd_T27 x77 x79).f2)) else (none)) else (laws_FnCache.j3 k x0 x2 x9 x79 false x77 x78 x79 ((rd_T27 x77 x79).f0) ((rd_T27 x77 x79).f1) ((rd_T27 x77 x79).f2))) else (laws_FnCache.j3 k x0 x2 x9 x79 false x77 x78 x79 ((rd_T27 x77 x79).f0) ((rd_T27 x77 x79).f1) ((rd_T27 x77 x79).f2))) else (none)) else (none)) else (some true)
def laws_FnCache.j3 : Nat → Int → List (S27) → List (S34) → Int → Bool → List (S27) → Int → Int → Bool → List Int → List (List Int) → Option (Bool)
  | 0, _, _, _, _, _, _, _, _, _, _, _ => none
  | k + 1, x0, x2, x9, x10, x12, x77, x78, x79, x178000, x178001, x178002 => if x178000 = true then (if 0 ≤ x10 then (if x10 < (x9.length : Int) then (if (((rd_T34 x9 x10).f0) != x12) = true then (some false) else (laws_FnCache.l1 k x0 x2 x9 x77 x78 (wrap64 (x79 + 1)))) else (none)) else (none)) else (if (x178001.length : Int) = 0 then ((spec_Unit.f k x0).bind fun t183 => (laws_FnCache.j4 k x0 x2 x9 x10 t183 x77 x78 x79 x178000 x178001 x178002)) else (laws_FnCache.j4 k x0 x2 x9 x10 (([] : List (List Int))) x77 x78 x79 x178000 x178001 x178002))
def laws_FnCache.j4 : Nat → Int → List (S27) → List (S34) → Int → List (List Int) → List (S27) → Int → Int → Bool → List Int → List (List Int) → Option (Bool)
  | 0, _, _, _, _, _, _, _, _, _, _, _ => none
  | k + 1, x0, x2, x9, x10, x13, x77, x78, x79, x178000, x178001, x178002 => if 0 ≤ x10 then (if x10 ≤ (x2.length : Int) then ((some (x2.take (x10 : Int).toNat : List (S27))).bind fun y186 => (laws_FnCache.l2 k x0 x2 x9 x10 x13 x77 x78 x79 y186 (y186.length : Int) 0 x178000 x178001 x178002)) else (none)) else (none)
def laws_FnCache.l2 : Nat → Int → List (S27) → List (S34) → Int → List (List Int) → List (S27) → Int → Int → List (S27) → Int → Int → Bool → List Int → List (List Int) → Option (Bool)
  | 0, _, _, _, _, _, _, _, _, _, _, _, _, _, _ => none
  | k + 1, x0, x2, x9, x10, x13, x77, x78, x79, x123, x124, x125, x178000, x178001, x178002 => if x125 < x124 then (if 0 ≤ x125 then (if x125 < (x123.length : Int) then (if (rd_T27 x123 x125).f0 = true then (if (x178001.length : Int) > 0 then ((laws_sameNumbers.f k ((rd_T27 x123 x125).f1) x178001).bind fun t194 => (if t194 = true then (if 0 < (((rd_T27 x123 x125).f2).length : Int) then (if (((rd_T27 x123 x125).f2).length : Int) = ((rd_L1 ((rd_T27 x123 x125).f2) 0).length : Int) then (laws_FnCache.l2 k x0 x2 x9 x10 ((rd_T27 x123 x125).f2) x77 x78 x79 x123 x124 (wrap64 (x125 + 1)) x178000 x178001 x178002) else (laws_FnCache.l2 k x0 x2 x9 x10 x13 x77 x78 x79 x123 x124 (wrap64 (x125 + 1)) x178000 x178001 x178002)) else (none)) else (laws_FnCache.l2 k x0 x2 x9 x10 x13 x77 x78 x79 x123 x124 (wrap64 (x125 + 1)) x178000 x178001 x178002))) else (laws_FnCache.l2 k x0 x2 x9 x10 x13 x77 x78 x79 x123 x124 (wrap64 (x125 + 1)) x178000 x178001 x178002)) else (laws_FnCache.l2 k x0 x2 x9 x10 x13 x77 x78 x79 x123 x124 (wrap64 (x125 + 1)) x178000 x178001 x178002)) else (none)) else (none)) else (if 0 ≤ x10 then (if x10 < (x9.length : Int) then ((spec_EqualMatrices.f k ((rd_T34 x9 x10).f1) x13).bind fun t191 => (if t191 = true then (laws_FnCache.l1 k x0 x2 x9 x77 x78 (wrap64 (x79 + 1))) else (some false))) else (none)) else (none))
end
def laws_FnCache.f (k : Nat) (a0 : Int) (a1 : Int) (l2 : List (S27)) : Option (Bool) := (laws_zzFits9.f k l2).bind fun t168 => (if t168 = true then (if a0 < 1 then (laws_FnCache.j0 k a0 a1 l2 true) else (if a0 > 12 then (laws_FnCache.j0 k a0 a1 l2 true) else (if a1 < 1 then (laws_FnCache.j0 k a0 a1 l2 true) else (if a1 > 12 then (laws_FnCache.j0 k a0 a1 l2 true) else (laws_FnCache.j0 k a0 a1 l2 (decide ((l2.length : Int) > 60))))))) else (some true))
theorem laws_FnCache.mono_l : ∀ k, (∀ y0 y1 y2 y3, LeO (laws_FnCache.j0 k y0 y1 y2 y3) (laws_FnCache.j0 (k + 1) y0 y1 y2 y3)) ∧ (∀ y0 y1 y2 y3 y4 y5, LeO (laws_FnCache.l0 k y0 y1 y2 y3 y4 y5) (laws_FnCache.l0 (k + 1) y0 y1 y2 y3 y4 y5)) ∧ (∀ y0 y1 y2 y3 y4 y5, LeO (laws_FnCache.l1 k y0 y1 y2 y3 y4 y5) (laws_FnCache.l1 (k + 1) y0 y1 y2 y3 y4 y5)) ∧ (∀ y0 y1 y2 y3 y4 y5 y6 y7 y8 y9 y10, LeO (laws_FnCache.j3 k y0 y1 y2 y3 y4 y5 y6 y7 y8 y9 y10) (laws_FnCache.j3 (k + 1) y0 y1 y2 y3 y4 y5 y6 y7 y8 y9 y10)) ∧ (∀ y0 y1 y2 y3 y4 y5 y6 y7 y8 y9 y10, LeO (laws_FnCache.j4 k y0 y1 y2 y3 y4 y5 y6 y7 y8 y9 y10) (laws_FnCache.j4 (k + 1) y0 y1 y2 y3 y4 y5 y6 y7 y8 y9 y10)) ∧ (∀ y0 y1 y2 y3 y4 y5 y6 y7 y8 y9 y10 y11 y12 y13, LeO (laws_FnCache.l2 k y0 y1 y2 y3 y4 y5 y6 y7 y8 y9 y10 y11 y12 y13) (laws_FnCache.l2 (k + 1) y0 y1 y2 y3 y4 y5 y6 y7 y8 y9 y10 y11 y12 y13))
  | 0 => ⟨fun _ _ _ _ r h => by simp [laws_FnCache.j0] at h, fun _ _ _ _ _ _ r h => by simp [laws_FnCache.l0] at h, fun _ _ _ _ _ _ r h => by simp [laws_FnCache.l1] at h, fun _ _ _ _ _ _ _ _ _ _ _ r h => by simp [laws_FnCache.j3] at h, fun _ _ _ _ _ _ _ _ _ _ _ r h => by simp [laws_FnCache.j4] at h, fun _ _ _ _ _ _ _ _ _ _ _ _ _ _ r h => by simp [laws_FnCache.l2] at h⟩
  | k + 1 => by
    obtain ⟨ih0, ih1, ih2, ih3, ih4, ih5⟩ := laws_FnCache.mono_l k
    refine ⟨?_, ?_, ?_, ?_, ?_, ?_⟩
    · intro y0 y1 y2 y3
      unfold laws_FnCache.j0
      repeat' first
      | (with_reducible exact ih0 _ _ _ _)
      | (with_reducible exact ih1 _ _ _ _ _ _)
      | (with_reducible exact ih2 _ _ _ _ _ _)
      | (with_reducible exact ih3 _ _ _ _ _ _ _ _ _ _ _)
      | (with_reducible exact ih4 _ _ _ _ _ _ _ _ _ _ _)
      | (with_reducible exact ih5 _ _ _ _ _ _ _ _ _ _ _ _ _ _)
      | (with_reducible exact impl_CacheScript.mono _ _ _ _)
      | (with_reducible exact laws_distinct.mono _ _ _)
      | (with_reducible exact laws_sameNumbers.mono _ _ _)
      | (with_reducible exact laws_zzFits9.mono _ _)
      | (with_reducible exact spec_EqualMatrices.mono _ _ _)
      | (with_reducible exact spec_Rectangular.mono _ _)
      | (with_reducible exact spec_Unit.mono _ _)
      | (with_reducible exact LeO.refl _)
      | (with_reducible exact LeO.none _)
      | (with_reducible refine LeO.ite ?_ ?_)
      | (with_reducible refine LeO.bind ?_ (fun _ => ?_))
      | exact ih0 _ _ _ _
      | exact ih1 _ _ _ _ _ _
      | exact ih2 _ _ _ _ _ _
      | exact ih3 _ _ _ _ _ _ _ _ _ _ _
      | exact ih4 _ _ _ _ _ _ _ _ _ _ _
      | exact ih5 _ _ _ _ _ _ _ _ _ _ _ _ _ _
      | exact impl_CacheScript.mono _ _ _ _
      | exact laws_distinct.mono _ _ _
      | exact laws_sameNumbers.mono _ _ _
      | exact laws_zzFits9.mono _ _
      | exact spec_EqualMatrices.mono _ _ _
      | exact spec_Rectangular.mono _ _
      | exact spec_Unit.mono _ _
      | exact LeO.none _
      | refine LeO.ite ?_ ?_
      | refine LeO.bind ?_ (fun _ => ?_)
    · intro y0 y1 y2 y3 y4 y5
      unfold laws_FnCache.l0
      repeat' first
      | (with_reducible exact ih0 _ _ _ _)
      | (with_reducible exact ih1 _ _ _ _ _ _)
      | (with_reducible exact ih2 _ _ _ _ _ _)
      | (with_reducible exact ih3 _ _ _ _ _ _ _ _ _ _ _)
      | (with_reducible exact ih4 _ _ _ _ _ _ _ _ _ _ _)
      | (with_reducible exact ih5 _ _ _ _ _ _ _ _ _ _ _ _ _ _)
      | (with_reducible exact impl_CacheScript.mono _ _ _ _)
      | (with_reducible exact laws_distinct.mono _ _ _)
      | (with_reducible exact laws_sameNumbers.mono _ _ _)
      | (with_reducible exact laws_zzFits9.mono _ _)
      | (with_reducible exact spec_EqualMatrices.mono _ _ _)
      | (with_reducible exact spec_Rectangular.mono _ _)
      | (with_reducible exact spec_Unit.mono _ _)
      | (with_reducible exact LeO.refl _)
      | (with_reducible exact LeO.none _)
      | (with_reducible refine LeO.ite ?_ ?_)
      | (with_reducible refine LeO.bind ?_ (fun _ => ?_))
      | exact ih0 _ _ _ _
      | exact ih1 _ _ _ _ _ _
      | exact ih2 _ _ _ _ _ _
      | exact ih3 _ _ _ _ _ _ _ _ _ _ _
      | exact ih4 _ _ _ _ _ _ _ _ _ _ _
      | exact ih5 _ _ _ _ _ _ _ _ _ _ _ _ _ _
      | exact impl_CacheScript.mono _ _ _ _
      | exact laws_distinct.mono _ _ _
      | exact laws_sameNumbers.mono _ _ _
      | exact laws_zzFits9.mono _ _
      | exact spec_EqualMatrices.mono _ _ _
      | exact spec_Rectangular.mono _ _
      | exact spec_Unit.mono _ _
      | exact LeO.none _
      | refine LeO.ite ?_ ?_
      | refine LeO.bind ?_ (fun _ => ?_)
    · intro y0 y1 y2 y3 y4 y5
      unfold laws_FnCache.l1
      repeat' first
      | (with_reducible exact ih0 _ _ _ _)
      | (with_reducible exact ih1 _ _ _ _ _ _)
      | (with_reducible exact ih2 _ _ _ _ _ _)
      | (with_reducible exact ih3 _ _ _ _ _ _ _ _ _ _ _)
      | (with_reducible exact ih4 _ _ _ _ _ _ _ _ _ _ _)
      | (with_reducible exact ih5 _ _ _ _ _ _ _ _ _ _ _ _ _ _)
      | (with_reducible exact impl_CacheScript.mono _ _ _ _)
      | (with_reducible exact laws_distinct.mono _ _ _)
      | (with_reducible exact laws_sameNumbers.mono _ _ _)
      | (with_reducible exact laws_zzFits9.mono _ _)
      | (with_reducible exact spec_EqualMatrices.mono _ _ _)
      | (with_reducible exact spec_Rectangular.mono _ _)
      | (with_reducible exact spec_Unit.mono _ _)
      | (with_reducible exact LeO.refl _)
      | (with_reducible exact LeO.none _)
      | (with_reducible refine LeO.ite ?_ ?_)
      | (with_reducible refine LeO.bind ?_ (fun _ => ?_))
      | exact ih0 _ _ _ _
      | exact ih1 _ _ _ _ _ _
      | exact ih2 _ _ _ _ _ _
      | exact ih3 _ _ _ _ _ _ _ _ _ _ _
      | exact ih4 _ _ _ _ _ _ _ _ _ _ _
      | exact ih5 _ _ _ _ _ _ _ _ _ _ _ _ _ _
      | exact impl_CacheScript.mono _ _ _ _
      | exact laws_distinct.mono _ _ _
      | exact laws_sameNumbers.mono _ _ _
      | exact laws_zzFits9.mono _ _
      | exact spec_EqualMatrices.mono _ _ _
      | exact spec_Rectangular.mono _ _
      | exact spec_Unit.mono _ _
      | exact LeO.none _
      | refine LeO.ite ?_ ?_
      | refine LeO.bind ?_ (fun _ => ?_)
    · intro y0 y1 y2 y3 y4 y5 y6 y7 y8 y9 y10
      unfold laws_FnCache.j3
      repeat' first
      | (with_reducible exact ih0 _ _ _ _)
      | (with_reducible exact ih1 _ _ _ _ _ _)
      | (with_reducible exact ih2 _ _ _ _ _ _)
      | (with_reducible exact ih3 _ _ _ _ _ _ _ _ _ _ _)
      | (with_reducible exact ih4 _ _ _ _ _ _ _ _ _ _ _)
      | (with_reducible exact ih5 _ _ _ _ _ _ _ _ _ _ _ _ _ _)
      | (with_reducible exact impl_CacheScript.mono _ _ _ _)
      | (with_reducible exact laws_distinct.mono _ _ _)
      | (with_reducible exact laws_sameNumbers.mono _ _ _)
      | (with_reducible exact laws_zzFits9.mono _ _)
      | (with_reducible exact spec_EqualMatrices.mono _ _ _)
      | (with_reducible exact spec_Rectangular.mono _ _)
      | (with_reducible exact spec_Unit.mono _ _)
      | (with_reducible exact LeO.refl _)
      | (with_reducible exact LeO.none _)
      | (with_reducible refine LeO.ite ?_ ?_)
      | (with_reducible refine LeO.bind ?_ (fun _ => ?_))
      | exact ih0 _ _ _ _
      | exact ih1 _ _ _ _ _ _
      | exact ih2 _ _ _ _ _ _
      | exact ih3 _ _ _ _ _ _ _ _ _ _ _
      | exact ih4 _ _ _ _ _ _ _ _ _ _ _
      | exact ih5 _ _ _ _ _ _ _ _ _ _ _ _ _ _
      | exact impl_CacheScript.mono _ _ _ _
      | exact laws_distinct.mono _ _ _
      | exact laws_sameNumbers.mono _ _ _
      | exact laws_zzFits9.mono _ _
      | exact spec_EqualMatrices.mono _ _ _
      | exact spec_Rectangular.mono _ _
      | exact spec_Unit.mono _ _
      | exact LeO.none _
      | refine LeO.ite ?_ ?_
      | refine LeO.bind ?_ (fun _ => ?_)
    · intro y0 y1 y2 y3 y4 y5 y6 y7 y8 y9 y10
      unfold laws_FnCache.j4
      repeat' first
      | (with_reducible exact ih0 _ _ _ _)
      | (with_reducible exact ih1 _ _ _ _ _ _)
      | (with_reducible exact ih2 _ _ _ _ _ _)
      | (with_reducible exact ih3 _ _ _ _ _ _ _ _ _ _ _)
      | (with_reducible exact ih4 _ _ _ _ _ _ _ _ _ _ _)
      | (with_reducible exact ih5 _ _ _ _ _ _ _ _ _ _ _ _ _ _)
      | (with_reducible exact impl_CacheScript.mono _ _ _ _)
      | (with_reducible exact laws_distinct.mono _ _ _)
      | (with_reducible exact laws_sameNumbers.mono _ _ _)
      | (with_reducible exact laws_zzFits9.mono _ _)
      | (with_reducible exact spec_EqualMatrices.mono _ _ _)
      | (with_reducible exact spec_Rectangular.mono _ _)
      | (with_reducible exact spec_Unit.mono _ _)
      | (with_reducible exact LeO.refl _)
      | (with_reducible exact LeO.none _)
      | (with_reducible refine LeO.ite ?_ ?_)
      | (with_reducible refine LeO.bind ?_ (fun _ => ?_))
      | exact ih0 _ _ _ _
      | exact ih1 _ _ _ _ _ _
      | exact ih2 _ _ _ _ _ _
      | exact ih3 _ _ _ _ _ _ _ _ _ _ _
      | exact ih4 _ _ _ _ _ _ _ _ _ _ _
      | exact ih5 _ _ _ _ _ _ _ _ _ _ _ _ _ _
      | exact impl_CacheScript.mono _ _ _ _
      | exact laws_distinct.mono _ _ _
      | exact laws_sameNumbers.mono _ _ _
      | exact laws_zzFits9.mono _ _
      | exact spec_EqualMatrices.mono _ _ _
      | exact spec_Rectangular.mono _ _
      | exact spec_Unit.mono _ _
      | exact LeO.none _
      | refine LeO.ite ?_ ?_
      | refine LeO.bind ?_ (fun _ => ?_)
    · intro y0 y1 y2 y3 y4 y5 y6 y7 y8 y9 y10 y11 y12 y13
      unfold laws_FnCache.l2
      repeat' first
      | (with_reducible exact ih0 _ _ _ _)
      | (with_reducible exact ih1 _ _ _ _ _ _)
      | (with_reducible exact ih2 _ _ _ _ _ _)
      | (with_reducible exact ih3 _ _ _ _ _ _ _ _ _ _ _)
      | (with_reducible exact ih4 _ _ _ _ _ _ _ _ _ _ _)
      | (with_reducible exact ih5 _ _ _ _ _ _ _ _ _ _ _ _ _ _)
      | (with_reducible exact impl_CacheScript.mono _ _ _ _)
      | (with_reducible exact laws_distinct.mono _ _ _)
      | (with_reducible exact laws_sameNumbers.mono _ _ _)
      | (with_reducible exact laws_zzFits9.mono _ _)
      | (with_reducible exact spec_EqualMatrices.mono _ _ _)
      | (with_reducible exact spec_Rectangular.mono _ _)
      | (with_reducible exact spec_Unit.mono _ _)
      | (with_reducible exact LeO.refl _)
      | (with_reducible exact LeO.none _)
      | (with_reducible refine LeO.ite ?_ ?_)
      | (with_reducible refine LeO.bind ?_ (fun _ => ?_))
      | exact ih0 _ _ _ _
      | exact ih1 _ _ _ _ _ _
      | exact ih2 _ _ _ _ _ _
      | exact ih3 _ _ _ _ _ _ _ _ _ _ _
      | exact ih4 _ _ _ _ _ _ _ _ _ _ _
      | exact ih5 _ _ _ _ _ _ _ _ _ _ _ _ _ _
      | exact impl_CacheScript.mono _ _ _ _
      | exact laws_distinct.mono _ _ _
      | exact laws_sameNumbers.mono _ _ _
      | exact laws_zzFits9.mono _ _
      | exact spec_EqualMatrices.mono _ _ _
      | exact spec_Rectangular.mono _ _
      | exact spec_Unit.mono _ _
      | exact LeO.none _
      | refine LeO.ite ?_ ?_
      | refine LeO.bind ?_ (fun _ => ?_)
theorem laws_FnCache.mono : ∀ a0 a1 a2 k, LeO (laws_FnCache.f k a0 a1 a2) (laws_FnCache.f (k + 1) a0 a1 a2) := by
  intro a0 a1 a2 k
  obtain ⟨ih0, ih1, ih2, ih3, ih4, ih5⟩ := laws_FnCache.mono_l k
  unfold laws_FnCache.f
  repeat' first
      | (with_reducible exact ih0 _ _ _ _)
      | (with_reducible exact ih1 _ _ _ _ _ _)
      | (with_reducible exact ih2 _ _ _ _ _ _)
      | (with_reducible exact ih3 _ _ _ _ _ _ _ _ _ _ _)
      | (with_reducible exact ih4 _ _ _ _ _ _ _ _ _ _ _)
      | (with_reducible exact ih5 _ _ _ _ _ _ _ _ _ _ _ _ _ _)
      | (with_reducible exact impl_CacheScript.mono _ _ _ _)
      | (with_reducible exact laws_distinct.mono _ _ _)
      | (with_reducible exact laws_sameNumbers.mono _ _ _)
      | (with_reducible exact laws_zzFits9.mono _ _)
      | (with_reducible exact spec_EqualMatrices.mono _ _ _)
      | (with_reducible exact spec_Rectangular.mono _ _)
      | (with_reducible exact spec_Unit.mono _ _)
      | (with_reducible exact LeO.refl _)
      | (with_reducible exact LeO.none _)
      | (with_reducible refine LeO.ite ?_ ?_)
      | (with_reducible refine LeO.bind ?_ (fun _ => ?_))
      | exact ih0 _ _ _ _
      | exact ih1 _ _ _ _ _ _
      | exact ih2 _ _ _ _ _ _
      | exact ih3 _ _ _ _ _ _ _ _ _ _ _
      | exact ih4 _ _ _ _ _ _ _ _ _ _ _
      | exact ih5 _ _ _ _ _ _ _ _ _ _ _ _ _ _
      | exact impl_CacheScript.mono _ _ _ _
      | exact laws_distinct.mono _ _ _
      | exact laws_sameNumbers.mono _ _ _
      | exact laws_zzFits9.mono _ _
      | exact spec_EqualMatrices.mono _ _ _
      | exact spec_Rectangular.mono _ _
      | exact spec_Unit.mono _ _
      | exact LeO.none _
      | refine LeO.ite ?_ ?_
      | refine LeO.bind ?_ (fun _ => ?_)
end Go.Proofs.YtlfmplhleglibaaDoor.M
