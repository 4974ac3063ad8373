/- Plain numbers, no program: the parallel sum of bits counts the bits of a number below 2^64. -/
import Derived.Lib.BitFns
import Derived.Laws.Bits64b
import Derived.WalkKit
namespace Go.Proofs.YtkmdkmlgahfcpaaDoor.Ones
open Go Go.RowKit
def M (c : Nat) : Nat → Nat
 | 0 => 0
 | n + 1 => c + 256 * M c n
theorem land_split (a b : Nat) : a &&& b = (a % 256 &&& b % 256) + 256 * ((a / 256) &&& (b / 256)) := by
 have h1 := @Nat.and_mod_two_pow a b 8
 have h2 := @Nat.and_div_two_pow a b 8
 rw [show 2 ^ 8 = 256 from rfl] at h1 h2
 rw [← h1, ← h2]
 omega
theorem land_M (c n a : Nat) (hc : c < 256) : a &&& M c (n + 1) = (a % 256 &&& c) + 256 * (a / 256 &&& M c n) := by
 rw [land_split a (M c (n + 1))]
 have h1 : M c (n + 1) % 256 = c := by simp only [M]; omega
 have h2 : M c (n + 1) / 256 = M c n := by simp only [M]; omega
 rw [h1, h2]
def g1 (b : Nat) : Nat := (b / 2 &&& 85) + (b &&& 85)
def g2 (b : Nat) : Nat := (b / 4 &&& 51) + (b &&& 51)
def f1 (n x : Nat) : Nat := (x / 2 &&& M 85 n) + (x &&& M 85 n)
def f2 (n x : Nat) : Nat := (x / 4 &&& M 51 n) + (x &&& M 51 n)
def f3 (n x : Nat) : Nat := (x / 16 + x) &&& M 15 n
theorem c1 : ∀ y : Fin 512, (y.val / 2 &&& 85) = (y.val % 256 / 2 &&& 85) := by decide +kernel
theorem c2 : ∀ y : Fin 1024, (y.val / 4 &&& 51) = (y.val % 256 / 4 &&& 51) := by decide +kernel
theorem c3 : ∀ b : Fin 256, g1 b.val < 256 ∧ g2 (g1 b.val) < 256 ∧ g2 (g1 b.val) % 16 ≤ 4 ∧ g2 (g1 b.val) / 16 ≤ 4 ∧ g2 (g1 b.val) / 16 + g2 (g1 b.val) % 16 = Lib.popAux 8 b.val ∧ Lib.popAux 8 b.val ≤ 8 := by decide +kernel
theorem c4 : ∀ h : Fin 256, (h.val &&& 15) = h.val % 16 := by decide +kernel
theorem f1_succ (n x : Nat) : f1 (n + 1) x = g1 (x % 256) + 256 * f1 n (x / 256) := by
 unfold f1 g1
 rw [land_M 85 n _ (by decide), land_M 85 n _ (by decide)]
 have h := c1 ⟨x % 512, by omega⟩
 simp only at h
 rw [show x / 2 % 256 = x % 512 / 2 by omega, show x / 2 / 256 = x / 256 / 2 by omega, h, show x % 512 % 256 = x % 256 by omega]
 omega
theorem f2_succ (n x : Nat) : f2 (n + 1) x = g2 (x % 256) + 256 * f2 n (x / 256) := by
 unfold f2 g2
 rw [land_M 51 n _ (by decide), land_M 51 n _ (by decide)]
 have h := c2 ⟨x % 1024, by omega⟩
 simp only at h
 rw [show x / 4 % 256 = x % 1024 / 4 by omega, show x / 4 / 256 = x / 256 / 4 by omega, h, show x % 1024 % 256 = x % 256 by omega]
 omega
theorem f3_succ (n g Z : Nat) (hg : g < 256) (h4 : g % 16 ≤ 4) (h5 : g / 16 ≤ 4) (hZ : Z % 16 ≤ 4) : f3 (n + 1) (g + 256 * Z) = (g / 16 + g % 16) + 256 * f3 n Z := by
 unfold f3
 rw [land_M 15 n _ (by decide)]
 have e1 : ((g + 256 * Z) / 16 + (g + 256 * Z)) % 256 = g / 16 + g + 16 * (Z % 16) := by omega
 have e2 : ((g + 256 * Z) / 16 + (g + 256 * Z)) / 256 = Z / 16 + Z := by omega
 rw [e1, e2]
 have h := c4 ⟨g / 16 + g + 16 * (Z % 16), by omega⟩
 simp only at h
 rw [h]
 omega
def P : Nat → Nat → Nat
 | 0, _ => 0
 | n + 1, x => Lib.popAux 8 (x % 256) + 256 * P n (x / 256)
theorem low4 (n x : Nat) : f2 n (f1 n x) % 16 ≤ 4 := by
 cases n with
 | zero => simp [f2, M]
 | succ n =>
  rw [f1_succ, f2_succ]
  obtain ⟨h1, _, h3, _⟩ := c3 ⟨x % 256, by omega⟩
  simp only at h1 h3
  rw [show (g1 (x % 256) + 256 * f1 n (x / 256)) % 256 = g1 (x % 256) by omega]
  omega
theorem sum_P : ∀ n x, f3 n (f2 n (f1 n x)) = P n x := by
 intro n
 induction n with
 | zero => intro x; simp [f3, M, P]
 | succ n ih =>
  intro x
  obtain ⟨h1, h2, h3, h4, h5, _⟩ := c3 ⟨x % 256, by omega⟩
  simp only at h1 h2 h3 h4 h5
  rw [f1_succ, f2_succ, show (g1 (x % 256) + 256 * f1 n (x / 256)) % 256 = g1 (x % 256) by omega, show (g1 (x % 256) + 256 * f1 n (x / 256)) / 256 = f1 n (x / 256) by omega,
   f3_succ n _ _ h2 h3 h4 (low4 n _), ih, h5]
  rfl
theorem pop_add : ∀ m n x, Lib.popAux (m + n) x = Lib.popAux m x + Lib.popAux n (x / 2 ^ m) := by
 intro m
 induction m with
 | zero => intro n x; simp [Lib.popAux]
 | succ m ih =>
  intro n x
  rw [show m + 1 + n = (m + n) + 1 by omega]
  simp only [Lib.popAux]
  rw [ih, Nat.div_div_eq_div_mul, Nat.pow_succ, Nat.mul_comm 2]
  omega
theorem pop_mod : ∀ m x, Lib.popAux m x = Lib.popAux m (x % 2 ^ m) := by
 intro m
 induction m with
 | zero => intro x; rfl
 | succ m ih =>
  intro x
  simp only [Lib.popAux]
  rw [ih (x / 2), ih (x % 2 ^ (m + 1) / 2)]
  have e : 2 ^ (m + 1) = 2 * 2 ^ m := by rw [Nat.pow_succ, Nat.mul_comm]
  rw [e]
  have h1 : x % (2 * 2 ^ m) % 2 = x % 2 := Nat.mod_mul_right_mod _ _ _
  have h2 : x % (2 * 2 ^ m) / 2 = x / 2 % 2 ^ m := Nat.mod_mul_right_div_self _ _ _
  rw [h1, h2, Nat.mod_mod]
theorem pop_byte (n x : Nat) : Lib.popAux (8 + n) x = Lib.popAux 8 (x % 256) + Lib.popAux n (x / 256) := by
 rw [pop_add, pop_mod 8 x]
def S : Nat → Nat → Nat
 | 0, _ => 0
 | n + 1, x => Lib.popAux 8 (x % 256) + S n (x / 256)
theorem pop_S : ∀ n x, Lib.popAux (8 * n) x = S n x := by
 intro n
 induction n with
 | zero => intro x; rfl
 | succ n ih => intro x; rw [show 8 * (n + 1) = 8 + 8 * n by omega, pop_byte, ih]; rfl
theorem count_eq (x : Nat) : Lib.onesCount x = S 8 x := pop_S 8 x
theorem byte_le (b : Nat) : Lib.popAux 8 (b % 256) ≤ 8 := (c3 ⟨b % 256, by omega⟩).2.2.2.2.2
theorem st1 (a x q : Nat) (h : x < 256) (e : a = x + 256 * q) : a / 256 = q := by omega
theorem st2 (a x y r : Nat) (h : x < 256) (h2 : y < 256) (e : a = x + 256 * (y + 256 * r)) : a / 65536 = r := by omega
theorem st4 (a x y z u r : Nat) (h : x < 256) (h2 : y < 256) (h3 : z < 256) (h4 : u < 256) (e : a = x + 256 * (y + 256 * (z + 256 * (u + 256 * r)))) : a / 4294967296 = r := by
 have e1 : a / 65536 = z + 256 * (u + 256 * r) := st2 a x y _ h h2 e
 have e2 : a / 65536 / 65536 = r := st2 _ z u _ h3 h4 e1
 rw [← e2, Nat.div_div_eq_div_mul]
theorem top (a p0 p1 p2 p3 p4 p5 p6 p7 : Nat) (h0 : p0 ≤ 8) (h1 : p1 ≤ 8) (h2 : p2 ≤ 8) (h3 : p3 ≤ 8) (h4 : p4 ≤ 8) (h5 : p5 ≤ 8) (h6 : p6 ≤ 8) (h7 : p7 ≤ 8)
  (ha : a = p0 + 256 * (p1 + 256 * (p2 + 256 * (p3 + 256 * (p4 + 256 * (p5 + 256 * (p6 + 256 * p7))))))) : a < 2 ^ 60 := by
 omega
theorem k4 (p0 p1 p2 p3 p4 p5 p6 p7 : Nat) : ((p0) + 256 * ((p1) + 256 * ((p2) + 256 * ((p3) + 256 * ((p4) + 256 * ((p5) + 256 * ((p6) + 256 * (p7)))))))) + ((p1) + 256 * ((p2) + 256 * ((p3) + 256 * ((p4) + 256 * ((p5) + 256 * ((p6) + 256 * (p7))))))) = (p0 + p1) + 256 * ((p1 + p2) + 256 * ((p2 + p3) + 256 * ((p3 + p4) + 256 * ((p4 + p5) + 256 * ((p5 + p6) + 256 * ((p6 + p7) + 256 * (p7))))))) := by omega
theorem k5 (p0 p1 p2 p3 p4 p5 p6 p7 : Nat) : ((p0 + p1) + 256 * ((p1 + p2) + 256 * ((p2 + p3) + 256 * ((p3 + p4) + 256 * ((p4 + p5) + 256 * ((p5 + p6) + 256 * ((p6 + p7) + 256 * (p7)))))))) + ((p2 + p3) + 256 * ((p3 + p4) + 256 * ((p4 + p5) + 256 * ((p5 + p6) + 256 * ((p6 + p7) + 256 * (p7)))))) = (p0 + p1 + p2 + p3) + 256 * ((p1 + p2 + p3 + p4) + 256 * ((p2 + p3 + p4 + p5) + 256 * ((p3 + p4 + p5 + p6) + 256 * ((p4 + p5 + p6 + p7) + 256 * ((p5 + p6 + p7) + 256 * ((p6 + p7) + 256 * (p7))))))) := by omega
theorem k6 (p0 p1 p2 p3 p4 p5 p6 p7 : Nat) : ((p0 + p1 + p2 + p3) + 256 * ((p1 + p2 + p3 + p4) + 256 * ((p2 + p3 + p4 + p5) + 256 * ((p3 + p4 + p5 + p6) + 256 * ((p4 + p5 + p6 + p7) + 256 * ((p5 + p6 + p7) + 256 * ((p6 + p7) + 256 * (p7)))))))) + ((p4 + p5 + p6 + p7) + 256 * ((p5 + p6 + p7) + 256 * ((p6 + p7) + 256 * (p7)))) = (p0 + p1 + p2 + p3 + p4 + p5 + p6 + p7) + 256 * ((p1 + p2 + p3 + p4 + p5 + p6 + p7) + 256 * ((p2 + p3 + p4 + p5 + p6 + p7) + 256 * ((p3 + p4 + p5 + p6 + p7) + 256 * ((p4 + p5 + p6 + p7) + 256 * ((p5 + p6 + p7) + 256 * ((p6 + p7) + 256 * (p7))))))) := by omega
theorem fold (p0 p1 p2 p3 p4 p5 p6 p7 : Nat) (h0 : p0 ≤ 8) (h1 : p1 ≤ 8) (h2 : p2 ≤ 8) (h3 : p3 ≤ 8) (h4 : p4 ≤ 8) (h5 : p5 ≤ 8) (h6 : p6 ≤ 8) (h7 : p7 ≤ 8) (a a4 a5 a6 : Nat)
  (ha : a = p0 + 256 * (p1 + 256 * (p2 + 256 * (p3 + 256 * (p4 + 256 * (p5 + 256 * (p6 + 256 * p7))))))) (e4 : a4 = a + a / 256) (e5 : a5 = a4 + a4 / 65536) (e6 : a6 = a5 + a5 / 4294967296) :
  a < 2 ^ 60 ∧ a4 < 2 ^ 61 ∧ a5 < 2 ^ 62 ∧ a6 < 2 ^ 63 ∧ a6 % 128 = p0 + p1 + p2 + p3 + p4 + p5 + p6 + p7 := by
 have b := top a _ _ _ _ _ _ _ _ h0 h1 h2 h3 h4 h5 h6 h7 ha
 have b4 : a4 < 2 ^ 61 := by omega
 have b5 : a5 < 2 ^ 62 := by omega
 have b6 : a6 < 2 ^ 63 := by omega
 refine ⟨b, b4, b5, b6, ?_⟩
 clear b b4 b5 b6
 rw [st1 a p0 _ (by omega) ha, ha, k4] at e4
 rw [st2 a4 (p0 + p1) (p1 + p2) _ (by omega) (by omega) e4, e4, k5] at e5
 rw [st4 a5 (p0 + p1 + p2 + p3) (p1 + p2 + p3 + p4) (p2 + p3 + p4 + p5) (p3 + p4 + p5 + p6) _ (by omega) (by omega) (by omega) (by omega) e5, e5, k6] at e6
 rw [e6]
 clear e4 e5 e6 ha
 omega
theorem u64_nat (a : Nat) (h : a < 18446744073709551616) : IntKind.u64.wrap (a : Int) = (a : Int) := IntWalk.u64_in _ ⟨by omega, by omega⟩
theorem and127 (a : Nat) (h : a < 2 ^ 63) : bits .and .i64 (a : Int) 127 = ((a % 128 : Nat) : Int) := by
 have h1 : (BitVec.ofInt 64 (a : Int)).toNat = a := by
  rw [BitVec.ofInt_natCast, BitVec.toNat_ofNat]; exact Nat.mod_eq_of_lt (by omega)
 have h2 : (BitVec.ofInt 64 (127 : Int)).toNat = 127 := by rfl
 show IntKind.i64.wrap ((BitVec.ofInt 64 (a : Int) &&& BitVec.ofInt 64 (127 : Int)).toNat : Int) = _
 rw [BitVec.toNat_and, h1, h2, show (127 : Nat) = 2 ^ 7 - 1 from rfl, Nat.and_two_pow_sub_one_eq_mod]
 exact IntWalk.i64_in _ ⟨by omega, by omega⟩
theorem land_le (a b : Nat) : a &&& b ≤ b := Nat.and_le_right
theorem finish (a : Nat) (_n3 : a < 2 ^ 60) (n4 : a + a / 256 < 2 ^ 61) (n5 : a + a / 256 + (a + a / 256) / 65536 < 2 ^ 62) (n6 : a + a / 256 + (a + a / 256) / 65536 + (a + a / 256 + (a + a / 256) / 65536) / 4294967296 < 2 ^ 63) :
  Go.bits .and .i64 (wrap64 (IntKind.u64.wrap (IntKind.u64.wrap (IntKind.u64.wrap ((a : Int) + (a : Int) / 256) + IntKind.u64.wrap ((a : Int) + (a : Int) / 256) / 65536) + IntKind.u64.wrap (IntKind.u64.wrap ((a : Int) + (a : Int) / 256) + IntKind.u64.wrap ((a : Int) + (a : Int) / 256) / 65536) / 4294967296))) 127
   = (((a + a / 256 + (a + a / 256) / 65536 + (a + a / 256 + (a + a / 256) / 65536) / 4294967296) % 128 : Nat) : Int) := by
 have e4 : IntKind.u64.wrap ((a : Int) + (a : Int) / 256) = ((a + a / 256 : Nat) : Int) := by
  rw [← u64_nat (a + a / 256) (by omega)]; congr 1
 rw [e4]
 generalize a + a / 256 = y4 at *
 have e5 : IntKind.u64.wrap ((y4 : Int) + (y4 : Int) / 65536) = ((y4 + y4 / 65536 : Nat) : Int) := by
  rw [← u64_nat (y4 + y4 / 65536) (by omega)]; congr 1
 rw [e5]
 generalize y4 + y4 / 65536 = y5 at *
 have e6 : IntKind.u64.wrap ((y5 : Int) + (y5 : Int) / 4294967296) = ((y5 + y5 / 4294967296 : Nat) : Int) := by
  rw [← u64_nat (y5 + y5 / 4294967296) (by omega)]; congr 1
 rw [e6]
 generalize y5 + y5 / 4294967296 = y6 at *
 have e7 : wrap64 ((y6 : Nat) : Int) = ((y6 : Nat) : Int) := by unfold wrap64; omega
 rw [e7, and127 _ n6]
theorem swar (x : Nat) (hx : x < 18446744073709551616) :
  let x1 := IntKind.u64.wrap (Go.bits .and .u64 ((x : Int) / 2) 6148914691236517205 + Go.bits .and .u64 (x : Int) 6148914691236517205)
  let x2 := IntKind.u64.wrap (Go.bits .and .u64 (x1 / 4) 3689348814741910323 + Go.bits .and .u64 x1 3689348814741910323)
  let x3 := Go.bits .and .u64 (IntKind.u64.wrap (x2 / 16 + x2)) 1085102592571150095
  let x4 := IntKind.u64.wrap (x3 + x3 / 256)
  let x5 := IntKind.u64.wrap (x4 + x4 / 65536)
  let x6 := IntKind.u64.wrap (x5 + x5 / 4294967296)
  Go.bits .and .i64 (wrap64 x6) 127 = (Lib.onesCount x : Int) := by
 intro x1 x2 x3 x4 x5 x6
 have m1 : M 85 8 = 6148914691236517205 := by simp [M]
 have m2 : M 51 8 = 3689348814741910323 := by simp [M]
 have m3 : M 15 8 = 1085102592571150095 := by simp [M]
 have l1 := land_le (x / 2) (M 85 8)
 have l2 := land_le x (M 85 8)
 rw [m1] at l1 l2
 have k1 : x1 = (f1 8 x : Nat) := by
  show IntKind.u64.wrap _ = _
  rw [show ((x : Int) / 2) = ((x / 2 : Nat) : Int) from by omega, show (6148914691236517205 : Int) = ((6148914691236517205 : Nat) : Int) from by omega, bits_and_u64_nat _ _ (by omega) (by omega), bits_and_u64_nat _ _ hx (by omega), ← Int.natCast_add, u64_nat _ (by omega)]
  unfold f1; rw [m1]
 have b1 : f1 8 x < 18446744073709551616 := by unfold f1; rw [m1]; omega
 have l3 := land_le (f1 8 x / 4) (M 51 8)
 have l4 := land_le (f1 8 x) (M 51 8)
 rw [m2] at l3 l4
 have k2 : x2 = (f2 8 (f1 8 x) : Nat) := by
  show IntKind.u64.wrap _ = _
  rw [k1, show ((f1 8 x : Nat) : Int) / 4 = ((f1 8 x / 4 : Nat) : Int) by omega, show (3689348814741910323 : Int) = ((3689348814741910323 : Nat) : Int) from by omega, bits_and_u64_nat _ _ (by omega) (by omega), bits_and_u64_nat _ _ b1 (by omega), ← Int.natCast_add, u64_nat _ (by omega)]
  unfold f2; rw [m2]
 have b2 : f2 8 (f1 8 x) ≤ 7378697629483820646 := by unfold f2; rw [m2]; omega
 have k3 : x3 = (P 8 x : Nat) := by
  show Go.bits .and .u64 (IntKind.u64.wrap _) _ = _
  rw [k2, show ((f2 8 (f1 8 x) : Nat) : Int) / 16 + ((f2 8 (f1 8 x) : Nat) : Int) = ((f2 8 (f1 8 x) / 16 + f2 8 (f1 8 x) : Nat) : Int) by omega, u64_nat _ (by omega), show (1085102592571150095 : Int) = ((1085102592571150095 : Nat) : Int) from by omega, bits_and_u64_nat _ _ (by omega) (by omega), ← sum_P 8 x]
  unfold f3; rw [m3]
 have hs : P 8 x = Lib.popAux 8 (x % 256) + 256 * (Lib.popAux 8 (x / 256 % 256) + 256 * (Lib.popAux 8 (x / 256 / 256 % 256) + 256 * (Lib.popAux 8 (x / 256 / 256 / 256 % 256) + 256 * (Lib.popAux 8 (x / 256 / 256 / 256 / 256 % 256) + 256 * (Lib.popAux 8 (x / 256 / 256 / 256 / 256 / 256 % 256) + 256 * (Lib.popAux 8 (x / 256 / 256 / 256 / 256 / 256 / 256 % 256) + 256 * Lib.popAux 8 (x / 256 / 256 / 256 / 256 / 256 / 256 / 256 % 256))))))) := rfl
 have hS : Lib.onesCount x = Lib.popAux 8 (x % 256) + (Lib.popAux 8 (x / 256 % 256) + (Lib.popAux 8 (x / 256 / 256 % 256) + (Lib.popAux 8 (x / 256 / 256 / 256 % 256) + (Lib.popAux 8 (x / 256 / 256 / 256 / 256 % 256) + (Lib.popAux 8 (x / 256 / 256 / 256 / 256 / 256 % 256) + (Lib.popAux 8 (x / 256 / 256 / 256 / 256 / 256 / 256 % 256) + Lib.popAux 8 (x / 256 / 256 / 256 / 256 / 256 / 256 / 256 % 256))))))) := by rw [count_eq]; rfl
 obtain ⟨n3, n4, n5, n6, nf⟩ := fold _ _ _ _ _ _ _ _ (byte_le x) (byte_le (x / 256)) (byte_le (x / 256 / 256)) (byte_le (x / 256 / 256 / 256)) (byte_le (x / 256 / 256 / 256 / 256)) (byte_le (x / 256 / 256 / 256 / 256 / 256)) (byte_le (x / 256 / 256 / 256 / 256 / 256 / 256)) (byte_le (x / 256 / 256 / 256 / 256 / 256 / 256 / 256)) (P 8 x) _ _ _ hs rfl rfl rfl
 have hfin := finish (P 8 x) n3 n4 n5 n6
 rw [nf] at hfin
 have hx4 : x6 = IntKind.u64.wrap (IntKind.u64.wrap (IntKind.u64.wrap (x3 + x3 / 256) + IntKind.u64.wrap (x3 + x3 / 256) / 65536) + IntKind.u64.wrap (IntKind.u64.wrap (x3 + x3 / 256) + IntKind.u64.wrap (x3 + x3 / 256) / 65536) / 4294967296) := rfl
 rw [hx4, k3, hfin, hS]
 simp only [Nat.add_assoc]
end Go.Proofs.YtkmdkmlgahfcpaaDoor.Ones
