/-
  WHAT ALL WALKS OF THIS SEAT SHARE: imports, ends, small laws.
-/
import Derived.Test.Qxb6603006aRows
import Derived.Test.Qxb6603006aPlain
import Derived.WalkKit
import Derived.WalkSpells
import Derived.WalkLawsBesides
import Derived.WalkSmall
import Derived.Deep.QuietTactic
import Derived.BigQuiet
import Derived.Deep.RegionHeld3
namespace Go.Proofs.Qxb6603006a
open Go.RowKit

/-- A number comes back; nothing old has turned. -/
def IntRet (v : Int) (w : World) (e : Ending) (w' : World) : Prop := e = .returned (.int .u64 v) ∧ Below w.heap.size w w'
/-- A number and a Bool come back; nothing old has turned. -/
def PairRet (v : Int) (b : Bool) (w : World) (e : Ending) (w' : World) : Prop := e = .returned (.tuple #[.int .u64 v, .bool b]) ∧ Below w.heap.size w w'
theorem ret_u64 {a b : Int} (h : a = b) : Ending.returned (.int .u64 a) = .returned (.int .u64 b) := by rw [h]
theorem ret_pair {a b : Int} {x y : Bool} (h : a = b) (h' : x = y) : Ending.returned (.tuple #[.int .u64 a, .bool x]) = .returned (.tuple #[.int .u64 b, .bool y]) := by rw [h, h']
theorem beq_of_iff {a b c d : Int} (h : a = b ↔ c = d) : (a == b) = (c == d) := by
  rw [Bool.eq_iff_iff]; simp [h]
theorem wrap_i (n : Int) (h0 : -9223372036854775808 ≤ n) (h1 : n < 9223372036854775808) : IntKind.i64.wrap n = n := by rw [IntKind.wrap_i64]; omega
theorem wrap_u (n : Int) (h0 : 0 ≤ n) (h1 : n < 18446744073709551616) : IntKind.u64.wrap n = n := by rw [IntKind.wrap_u64]; omega
/-- What widen makes of a subnormal with fraction f: brought up i times to g. -/
def SubRet (s f P D lo : Int) (w : World) (e : Ending) (w' : World) : Prop := ∃ (i : Nat) (g : Int), e = .returned (.int .u64 (s * 9223372036854775808 + (lo - i) * 4503599627370496 + (g - P) * D)) ∧ g = f * 2 ^ i ∧ P ≤ g ∧ g < 2 * P ∧ Below w.heap.size w w'
theorem two_pow_le {i j : Nat} (h : i < j) : 2 * (2 : Int) ^ i ≤ 2 ^ j := by
  have h1 : (2 : Nat) ^ (i + 1) ≤ 2 ^ j := Nat.pow_le_pow_right (by omega) h
  have h2 : ((2 ^ (i + 1) : Nat) : Int) ≤ ((2 ^ j : Nat) : Int) := by omega
  rw [Nat.pow_succ] at h2
  simp only [Int.natCast_mul, Int.natCast_pow, Int.cast_ofNat_Int] at h2
  omega
theorem pow_mono {i j : Nat} (h : i ≤ j) : (2 : Int) ^ i ≤ 2 ^ j := by
  have h1 : (2 : Nat) ^ i ≤ 2 ^ j := Nat.pow_le_pow_right (by omega) h
  have h2 : ((2 ^ i : Nat) : Int) ≤ ((2 ^ j : Nat) : Int) := by omega
  simpa using h2
theorem one_le_two_pow (i : Nat) : 1 ≤ (2 : Int) ^ i := by
  have h1 : 1 ≤ (2 : Nat) ^ i := Nat.one_le_two_pow
  have h2 : ((1 : Nat) : Int) ≤ ((2 ^ i : Nat) : Int) := by omega
  simpa using h2
theorem sub_more {f g : Int} {i p : Nat} (hg : g = f * 2 ^ i) (hf : 1 ≤ f) (hlt : g < 2 ^ p) : i + 1 ≤ p := by
  rcases Nat.lt_or_ge i p with h | h
  · exact h
  · have h1 : (2 : Int) ^ p ≤ 2 ^ i := by
      rcases Nat.lt_or_ge p i with h' | h'
      · have := two_pow_le h'; have := one_le_two_pow p; omega
      · rw [show i = p by omega]; exact Int.le_refl _
    have h2 := one_le_two_pow i
    have h3 : 1 * (2 : Int) ^ i ≤ f * 2 ^ i := Int.mul_le_mul_of_nonneg_right hf (by omega)
    omega
theorem pow_drop (drop j : Nat) (D : Int) (hD : D = 2 ^ drop) : (2 : Int) ^ (drop + j) = D * 2 ^ j := by rw [hD, Int.pow_add]
theorem sub_bounds (p drop j : Nat) (P D M n : Int) (hP : P = 2 ^ p) (hD : D = 2 ^ drop) (hj : 1 ≤ j) (hjp : j ≤ p) (hM0 : P * D ≤ M) (hM1 : M < 2 * (P * D)) (hn : n = M / 2 ^ (drop + j)) :
    1 ≤ n ∧ n < P ∧ P ≤ n * 2 ^ j ∧ n * 2 ^ j < 2 * P := by
  have hQ := pow_drop drop j D hD
  have d1 : 1 ≤ D := by rw [hD]; exact one_le_two_pow drop
  have t1 := one_le_two_pow j
  have t2 : 2 ≤ (2 : Int) ^ j := by have := two_pow_le (i := 0) (j := j) (by omega); simpa using this
  have hPj : P = 2 ^ (p - j) * 2 ^ j := by rw [hP, ← Int.pow_add, show p - j + j = p by omega]
  have k1 := one_le_two_pow (p - j)
  have q1 : 1 ≤ (2 : Int) ^ (drop + j) := one_le_two_pow _
  have hmod := Int.emod_add_mul_ediv M ((2 : Int) ^ (drop + j))
  have hm0 := Int.emod_nonneg M (show (2 : Int) ^ (drop + j) ≠ 0 by omega)
  have hm1 := Int.emod_lt_of_pos M (show 0 < (2 : Int) ^ (drop + j) by omega)
  rw [← hn] at hmod
  rw [hQ] at hmod hm0 hm1
  have e1 : D * 2 ^ j * n = (n * 2 ^ j) * D := by rw [Int.mul_comm (D * 2 ^ j) n, Int.mul_comm D, Int.mul_assoc]
  rw [e1] at hmod
  have u1 : n * 2 ^ j < 2 * P := by
    refine Int.lt_of_mul_lt_mul_right (a := D) ?_ (by omega)
    rw [Int.mul_assoc 2 P D]; omega
  have u2 : P < (n + 1) * 2 ^ j := by
    refine Int.lt_of_mul_lt_mul_right (a := D) ?_ (by omega)
    rw [Int.add_mul, Int.add_mul, Int.one_mul, Int.mul_comm (2 ^ j) D]; omega
  have u3 : 2 ^ (p - j) < n + 1 := by
    refine Int.lt_of_mul_lt_mul_right (a := 2 ^ j) ?_ (by omega)
    rw [← hPj]; exact u2
  have u4 : P ≤ n * 2 ^ j := by
    rw [hPj]; exact Int.mul_le_mul_of_nonneg_right (by omega) (by omega)
  have n1 : 1 ≤ n := by omega
  have u5 : n * 2 ≤ n * 2 ^ j := Int.mul_le_mul_of_nonneg_left t2 (by omega)
  exact ⟨n1, by omega, u4, u1⟩
theorem up_once {n P : Int} {i j : Nat} (n0 : 1 ≤ n) (h1 : P ≤ n * 2 ^ i) (h2 : n * 2 ^ j < 2 * P) : ¬ i < j := by
  intro h
  have h3 : n * (2 * 2 ^ i) ≤ n * 2 ^ j := Int.mul_le_mul_of_nonneg_left (two_pow_le h) (by omega)
  rw [Int.mul_left_comm] at h3
  omega
theorem sub_iff (drop j i : Nat) (s P D lo M n g : Int) (hD : D = 2 ^ drop) (hPD : P * D = 4503599627370496) (n0 : 1 ≤ n) (hn : n = M / 2 ^ (drop + j)) (h1 : P ≤ n * 2 ^ j) (h2 : n * 2 ^ j < 2 * P) (hg : g = n * 2 ^ i) (g0 : P ≤ g) (g1 : g < 2 * P) :
    (s * 9223372036854775808 + (lo - (i : Int)) * 4503599627370496 + (g - P) * D = s * 9223372036854775808 + (lo - (j : Int)) * 4503599627370496 + (M - 4503599627370496)) ↔ M % 2 ^ (drop + j) = 0 := by
  have e : i = j := by
    have a := up_once n0 (by rw [← hg]; exact g0) h2
    have b := up_once n0 h1 (by rw [← hg]; exact g1)
    omega
  subst e
  have hQ := pow_drop drop i D hD
  have hmod := Int.emod_add_mul_ediv M ((2 : Int) ^ (drop + i))
  rw [← hn] at hmod
  have e1 : (2 : Int) ^ (drop + i) * n = g * D := by rw [hQ, hg, Int.mul_comm (D * 2 ^ i) n, Int.mul_comm D, Int.mul_assoc]
  rw [e1] at hmod
  have e2 : (g - P) * D = g * D - 4503599627370496 := by rw [Int.sub_mul, hPD]
  rw [e2]
  omega
theorem hid {p : Prop} (h : p) : Hid p := h
end Go.Proofs.Qxb6603006a
