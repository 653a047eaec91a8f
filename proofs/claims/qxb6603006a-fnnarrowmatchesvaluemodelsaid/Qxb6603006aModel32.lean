/-
  THE WALKS of zzB1NarrowModel at the format of 32 bits.
-/
import Derived.Test.Qxb6603006aBase
namespace Go.Proofs.Qxb6603006a
open Go.RowKit
set_option linter.unusedVariables false

set_option maxHeartbeats 2000000 in
theorem model_32_top (b s F : Int) (w : World) (hb : b = s * 9223372036854775808 + 2047 * 4503599627370496 + F) (s0 : 0 ≤ s) (s1 : s ≤ 1) (f0 : 0 ≤ F) (f1 : F < 4503599627370496) :
    Calls Try.prog 11 #[.int .i64 8, .int .i64 23, .int .u64 b] w (PairRet (s * 2147483648 + 2139095040 + F / 536870912) (F % 536870912 == 0) w) := by
  have q1 : b / 9223372036854775808 = s := by omega
  have q2 : bits .and .u64 (b / 4503599627370496) 2047 = 2047 := by rw [mask_u64 11 (b / 4503599627370496) 2047 (by decide) (by decide) (by omega) (by omega)]; omega
  have q3 : bits .and .u64 b 4503599627370495 = F := by rw [mask_u64 52 b 4503599627370495 (by decide) (by decide) (by omega) (by omega)]; omega
  have b0 : 0 ≤ b := by omega
  have b1 : b < 18446744073709551616 := by omega
  clear hb
  have r1 : bits .or .u64 (s * 2147483648) 2139095040 = s * 2147483648 + 2139095040 := or_u64 31 s 2139095040 _ (by omega) s0 (by decide) (by decide) (by omega)
  have r2 : bits .or .u64 (s * 2147483648 + 2139095040) (F / 536870912) = s * 2147483648 + 2139095040 + F / 536870912 := or_u64 23 (s * 256 + 255) (F / 536870912) _ (by omega) (by omega) (by omega) (by omega) (by omega)
  have r3 : bits .and .u64 F 536870911 = F % 536870912 := mask_u64 29 F 536870911 (by decide) (by decide) (by omega) (by omega)
  go_enter Try.func11, Try.ntmps11
  go_wp2
  go_ret2
  exact ⟨ret_pair (by first | rfl | rw [r1, r2]) (by first | rfl | rw [r3]), Below.refl _ _⟩

set_option maxHeartbeats 2000000 in
theorem model_32_zero (b s : Int) (w : World) (hb : b = s * 9223372036854775808) (s0 : 0 ≤ s) (s1 : s ≤ 1) :
    Calls Try.prog 11 #[.int .i64 8, .int .i64 23, .int .u64 b] w (PairRet (s * 2147483648) true w) := by
  have q1 : b / 9223372036854775808 = s := by omega
  have q2 : bits .and .u64 (b / 4503599627370496) 2047 = 0 := by rw [mask_u64 11 (b / 4503599627370496) 2047 (by decide) (by decide) (by omega) (by omega)]; omega
  have q3 : bits .and .u64 b 4503599627370495 = 0 := by rw [mask_u64 52 b 4503599627370495 (by decide) (by decide) (by omega) (by omega)]; omega
  have b0 : 0 ≤ b := by omega
  have b1 : b < 18446744073709551616 := by omega
  clear hb
  go_enter Try.func11, Try.ntmps11
  go_wp2
  go_ret2
  exact ⟨rfl, Below.refl _ _⟩

set_option maxHeartbeats 2000000 in
theorem model_32_d1 (b s F : Int) (w : World) (hb : b = s * 9223372036854775808 + F) (s0 : 0 ≤ s) (s1 : s ≤ 1) (f0 : 1 ≤ F) (f1 : F < 4503599627370496) :
    Calls Try.prog 11 #[.int .i64 8, .int .i64 23, .int .u64 b] w (PairRet 0 false w) := by
  have q1 : b / 9223372036854775808 = s := by omega
  have q2 : bits .and .u64 (b / 4503599627370496) 2047 = 0 := by rw [mask_u64 11 (b / 4503599627370496) 2047 (by decide) (by decide) (by omega) (by omega)]; omega
  have q3 : bits .and .u64 b 4503599627370495 = F := by rw [mask_u64 52 b 4503599627370495 (by decide) (by decide) (by omega) (by omega)]; omega
  have b0 : 0 ≤ b := by omega
  have b1 : b < 18446744073709551616 := by omega
  clear hb
  go_enter Try.func11, Try.ntmps11
  go_wp2
  go_ret2
  exact ⟨rfl, Below.refl _ _⟩

set_option maxHeartbeats 2000000 in
theorem model_32_d2 (b s E F : Int) (w : World) (hb : b = s * 9223372036854775808 + E * 4503599627370496 + F) (s0 : 0 ≤ s) (s1 : s ≤ 1) (e0 : 1150 < E) (e1 : E < 2047) (f0 : 0 ≤ F) (f1 : F < 4503599627370496) :
    Calls Try.prog 11 #[.int .i64 8, .int .i64 23, .int .u64 b] w (PairRet 0 false w) := by
  have q1 : b / 9223372036854775808 = s := by omega
  have q2 : bits .and .u64 (b / 4503599627370496) 2047 = E := by rw [mask_u64 11 (b / 4503599627370496) 2047 (by decide) (by decide) (by omega) (by omega)]; omega
  have q3 : bits .and .u64 b 4503599627370495 = F := by rw [mask_u64 52 b 4503599627370495 (by decide) (by decide) (by omega) (by omega)]; omega
  have b0 : 0 ≤ b := by omega
  have b1 : b < 18446744073709551616 := by omega
  clear hb
  go_enter Try.func11, Try.ntmps11
  go_wp2
  go_ret2
  exact ⟨rfl, Below.refl _ _⟩

set_option maxHeartbeats 2000000 in
theorem model_32_d3 (b s E F M : Int) (w : World) (hb : b = s * 9223372036854775808 + E * 4503599627370496 + F) (s0 : 0 ≤ s) (s1 : s ≤ 1) (e0 : 1 ≤ E) (e1 : E < 874) (f0 : 0 ≤ F) (f1 : F < 4503599627370496) (hM : M = 4503599627370496 + F) :
    Calls Try.prog 11 #[.int .i64 8, .int .i64 23, .int .u64 b] w (PairRet 0 false w) := by
  have q1 : b / 9223372036854775808 = s := by omega
  have q2 : bits .and .u64 (b / 4503599627370496) 2047 = E := by rw [mask_u64 11 (b / 4503599627370496) 2047 (by decide) (by decide) (by omega) (by omega)]; omega
  have q3 : bits .and .u64 b 4503599627370495 = F := by rw [mask_u64 52 b 4503599627370495 (by decide) (by decide) (by omega) (by omega)]; omega
  have b0 : 0 ≤ b := by omega
  have b1 : b < 18446744073709551616 := by omega
  clear hb
  have q4 : bits .or .u64 4503599627370496 F = M := by rw [or_u64 52 1 F 4503599627370496 (by decide) (by decide) (by omega) (by omega) (by omega)]; omega
  by_cases hs : 64 ≤ 29 + ((-126) - (E - 1023))
  · clear hM
    go_enter Try.func11, Try.ntmps11
    go_wp2
    go_ret2
    exact ⟨rfl, Below.refl _ _⟩
  · have q5 : M / 2 ^ (29 + ((-126) - (E - 1023))).toNat = 0 := by
      refine Int.ediv_eq_zero_of_lt (by omega) ?_
      have h1 : (2 : Int) ^ 53 ≤ 2 ^ (29 + ((-126) - (E - 1023))).toNat := pow_mono (by omega)
      have h2 : (2 : Int) ^ 53 = 9007199254740992 := by decide
      omega
    clear hM
    go_enter Try.func11, Try.ntmps11
    go_wp2
    go_ret2
    exact ⟨rfl, Below.refl _ _⟩

set_option maxHeartbeats 2000000 in
theorem model_32_norm (b s E F M : Int) (w : World) (hb : b = s * 9223372036854775808 + E * 4503599627370496 + F) (s0 : 0 ≤ s) (s1 : s ≤ 1) (e0 : 897 ≤ E) (e1 : E ≤ 1150) (f0 : 0 ≤ F) (f1 : F < 4503599627370496) (hM : M = 4503599627370496 + F) :
    Calls Try.prog 11 #[.int .i64 8, .int .i64 23, .int .u64 b] w (PairRet (s * 2147483648 + (E - 1023 + 127) * 8388608 + F / 536870912) (F % 536870912 == 0) w) := by
  have q1 : b / 9223372036854775808 = s := by omega
  have q2 : bits .and .u64 (b / 4503599627370496) 2047 = E := by rw [mask_u64 11 (b / 4503599627370496) 2047 (by decide) (by decide) (by omega) (by omega)]; omega
  have q3 : bits .and .u64 b 4503599627370495 = F := by rw [mask_u64 52 b 4503599627370495 (by decide) (by decide) (by omega) (by omega)]; omega
  have b0 : 0 ≤ b := by omega
  have b1 : b < 18446744073709551616 := by omega
  clear hb
  have q4 : bits .or .u64 4503599627370496 F = M := by rw [or_u64 52 1 F 4503599627370496 (by decide) (by decide) (by omega) (by omega) (by omega)]; omega
  have m0 : 4503599627370496 ≤ M := by omega
  have m1 : M < 9007199254740992 := by omega
  have r1 : bits .or .u64 (s * 2147483648) ((E - 1023 + 127) * 8388608) = s * 2147483648 + (E - 1023 + 127) * 8388608 := or_u64 31 s _ _ (by omega) s0 (by omega) (by omega) (by omega)
  have r2 : bits .or .u64 (s * 2147483648 + (E - 1023 + 127) * 8388608) (M / 536870912 - 8388608) = s * 2147483648 + (E - 1023 + 127) * 8388608 + F / 536870912 := by
    rw [or_u64 23 (s * 256 + (E - 1023 + 127)) (M / 536870912 - 8388608) _ (by omega) (by omega) (by omega) (by omega) (by omega)]; omega
  have r3 : bits .and .u64 M 536870911 = F % 536870912 := by rw [mask_u64 29 M 536870911 (by decide) (by decide) (by omega) (by omega)]; omega
  clear hM
  go_enter Try.func11, Try.ntmps11
  go_wp2
  go_ret2
  exact ⟨ret_pair (by first | rfl | rw [r1, r2]) (by first | rfl | rw [r3]), Below.refl _ _⟩

set_option maxHeartbeats 2000000 in
theorem model_32_sub (b s E F M n : Int) (j : Nat) (w : World) (hb : b = s * 9223372036854775808 + E * 4503599627370496 + F) (s0 : 0 ≤ s) (s1 : s ≤ 1) (hE : E = 897 - (j : Int)) (j0 : 1 ≤ j) (j1 : j ≤ 23) (f0 : 0 ≤ F) (f1 : F < 4503599627370496) (hM : M = 4503599627370496 + F) (hn : n = M / 2 ^ (29 + j)) :
    Calls Try.prog 11 #[.int .i64 8, .int .i64 23, .int .u64 b] w (PairRet (s * 2147483648 + n) (M % 2 ^ (29 + j) == 0) w) := by
  have e0 : 874 ≤ E := by omega
  have e1 : E ≤ 896 := by omega
  obtain ⟨n0, n1, _, _⟩ := sub_bounds 23 29 j 8388608 536870912 M n (by decide) (by decide) j0 j1 (by omega) (by omega) hn
  have q1 : b / 9223372036854775808 = s := by omega
  have q2 : bits .and .u64 (b / 4503599627370496) 2047 = E := by rw [mask_u64 11 (b / 4503599627370496) 2047 (by decide) (by decide) (by omega) (by omega)]; omega
  have q3 : bits .and .u64 b 4503599627370495 = F := by rw [mask_u64 52 b 4503599627370495 (by decide) (by decide) (by omega) (by omega)]; omega
  have b0 : 0 ≤ b := by omega
  have b1 : b < 18446744073709551616 := by omega
  clear hb
  have q4 : bits .or .u64 4503599627370496 F = M := by rw [or_u64 52 1 F 4503599627370496 (by decide) (by decide) (by omega) (by omega) (by omega)]; omega
  have q5 : M / 2 ^ (29 + ((-126) - (E - 1023))).toNat = n := by rw [show (29 + ((-126) - (E - 1023))).toNat = 29 + j by omega]; exact hn.symm
  have q6 : bits .and .u64 M (IntKind.u64.wrap (IntKind.u64.wrap (2 ^ (29 + ((-126) - (E - 1023))).toNat) - 1)) = M % 2 ^ (29 + j) := by
    rw [show (29 + ((-126) - (E - 1023))).toNat = 29 + j by omega]
    have h1 : (2 : Int) ^ (29 + j) ≤ 2 ^ 63 := pow_mono (by omega)
    have h2 : (2 : Int) ^ 63 = 9223372036854775808 := by decide
    have h3 := one_le_two_pow (29 + j)
    rw [wrap_u (2 ^ (29 + j)) (by omega) (by omega), wrap_u (2 ^ (29 + j) - 1) (by omega) (by omega)]
    exact mask_u64 (29 + j) M _ rfl (by omega) (by omega) (by omega)
  have r1 : bits .or .u64 (s * 2147483648) n = s * 2147483648 + n := or_u64 31 s n _ (by omega) s0 (by omega) (by omega) (by omega)
  clear hE hM hn
  go_enter Try.func11, Try.ntmps11
  go_wp2
  go_ret2
  exact ⟨ret_pair (by first | rfl | rw [r1]) (by first | rfl | rw [q6]), Below.refl _ _⟩
end Go.Proofs.Qxb6603006a
