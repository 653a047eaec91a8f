/-
  THE PLAIN MATHEMATICS of 'FnNarrowMatchesValueModel': bit operations as sums, quotients and remainders. No walk.
-/
import Derived.WalkKit
namespace Go.Proofs.Qxb6603006a
open Go

theorem bits_and_i64_nat (a b : Nat) (ha : a < 9223372036854775808) (hb : b < 9223372036854775808) :
    bits .and .i64 (a : Int) (b : Int) = ((a &&& b : Nat) : Int) := by
  have hx : a &&& b < 2 ^ 63 := Nat.and_lt_two_pow _ (by omega)
  have h1 : (BitVec.ofInt 64 (a : Int)).toNat = a := by
    rw [BitVec.ofInt_natCast, BitVec.toNat_ofNat]; exact Nat.mod_eq_of_lt (by omega)
  have h2 : (BitVec.ofInt 64 (b : Int)).toNat = b := by
    rw [BitVec.ofInt_natCast, BitVec.toNat_ofNat]; exact Nat.mod_eq_of_lt (by omega)
  show IntKind.i64.wrap ((BitVec.ofInt 64 (a : Int) &&& BitVec.ofInt 64 (b : Int)).toNat : Int) = _
  rw [BitVec.toNat_and, h1, h2, IntKind.wrap_i64]
  omega

/-- x & (2^k - 1) on a uint64: the mask as a numeral. -/
theorem mask_u64 (k : Nat) (x m : Int) (hm : m = 2 ^ k - 1) (hk : k ≤ 63) (h0 : 0 ≤ x) (h1 : x < 18446744073709551616) : bits .and .u64 x m = x % 2 ^ k := by
  obtain ⟨a, rfl⟩ := Int.eq_ofNat_of_zero_le h0
  have hp : (2 : Nat) ^ k ≤ 2 ^ 63 := Nat.pow_le_pow_right (by omega) hk
  have hp0 : 0 < (2 : Nat) ^ k := Nat.pos_of_ne_zero (by simp)
  have hm' : m = ((2 ^ k - 1 : Nat) : Int) := by
    rw [hm, Int.natCast_sub hp0]; simp
  rw [hm', bits_and_u64_nat _ _ (by omega) (by omega), Nat.and_two_pow_sub_one_eq_mod]
  simp
theorem mask_i64 (k : Nat) (x m : Int) (hm : m = 2 ^ k - 1) (hk : k ≤ 62) (h0 : 0 ≤ x) (h1 : x < 9223372036854775808) : bits .and .i64 x m = x % 2 ^ k := by
  obtain ⟨a, rfl⟩ := Int.eq_ofNat_of_zero_le h0
  have hp : (2 : Nat) ^ k ≤ 2 ^ 62 := Nat.pow_le_pow_right (by omega) hk
  have hp0 : 0 < (2 : Nat) ^ k := Nat.pos_of_ne_zero (by simp)
  have hm' : m = ((2 ^ k - 1 : Nat) : Int) := by
    rw [hm, Int.natCast_sub hp0]; simp
  rw [hm', bits_and_i64_nat _ _ (by omega) (by omega), Nat.and_two_pow_sub_one_eq_mod]
  simp
/-- A number whose low k bits are nought, or-ed with one below 2^k: their sum. -/
theorem or_u64 (k : Nat) (q c x : Int) (hx : x = q * 2 ^ k) (hq : 0 ≤ q) (hc0 : 0 ≤ c) (hc : c < 2 ^ k) (hb : x + c < 18446744073709551616) : bits .or .u64 x c = x + c := by
  obtain ⟨a, rfl⟩ := Int.eq_ofNat_of_zero_le hq
  obtain ⟨b, rfl⟩ := Int.eq_ofNat_of_zero_le hc0
  have hx' : x = ((a <<< k : Nat) : Int) := by rw [hx, Nat.shiftLeft_eq]; simp
  have hc' : b < 2 ^ k := by
    have : ((b : Nat) : Int) < ((2 ^ k : Nat) : Int) := by simpa using hc
    omega
  rw [hx'] at hb ⊢
  have hp := Int.natCast_nonneg (a <<< k)
  generalize hy : (a <<< k : Nat) = y at hb hp ⊢
  rw [bits_or_u64_nat _ _ (by omega) (by omega), ← hy, ← Nat.shiftLeft_add_eq_or_of_lt hc']
  simp
end Go.Proofs.Qxb6603006a
