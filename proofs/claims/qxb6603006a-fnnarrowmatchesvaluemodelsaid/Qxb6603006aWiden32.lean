/-
  THE WALKS of (floatFormat).widen at the format of 32 bits.
-/
import Derived.Test.Qxb6603006aBase
namespace Go.Proofs.Qxb6603006a
open Go.RowKit
set_option linter.unusedVariables false

theorem bias_32 (w : World) : Calls Try.prog 15 #[.agg #[.int .i64 8, .int .i64 23]] w fun e w' => e = .returned (.int .i64 127) ∧ w.alloc (.cells #[.int .i64 8, .int .i64 23] 31) = w' := by
  go_enter Try.func15, Try.ntmps15
  go_wp2
  go_ret
  exact ⟨rfl, rfl⟩

set_option maxHeartbeats 2000000 in
theorem widen_32_top (x s f : Int) (w : World) (hx : x = s * 2147483648 + 2139095040 + f) (s0 : 0 ≤ s) (s1 : s ≤ 1) (f0 : 0 ≤ f) (f1 : f < 8388608) :
    Calls Try.prog 12 #[.agg #[.int .i64 8, .int .i64 23], .int .u64 x] w (IntRet (s * 9223372036854775808 + 9218868437227405312 + f * 536870912) w) := by
  have q1 : x / 2147483648 = s := by omega
  have q2 : bits .and .u64 s 1 = s := by rw [mask_u64 1 s 1 (by decide) (by decide) (by omega) (by omega)]; omega
  have q3 : bits .and .i64 (x / 8388608) 255 = 255 := by rw [mask_i64 8 (x / 8388608) 255 (by decide) (by decide) (by omega) (by omega)]; omega
  have q4 : bits .and .u64 x 8388607 = f := by rw [mask_u64 23 x 8388607 (by decide) (by decide) (by omega) (by omega)]; omega
  have b0 : 0 ≤ x := by omega
  have b1 : x < 4294967296 := by omega
  clear hx
  go_enter Try.func12, Try.ntmps12
  go_wp2
  go_quiet (fail)
  go_wp2
  go_ret
  refine ⟨ret_u64 ?_, below_drewN ((Below.refl _ _).alloc (Nat.le_refl _) _) _⟩
  rw [or_u64 63 s 9218868437227405312 (s * 9223372036854775808) (by omega) s0 (by decide) (by decide) (by omega)]
  rw [or_u64 52 (s * 2048 + 2047) (f * 536870912) _ (by omega) (by omega) (by omega) (by omega) (by omega)]

set_option maxHeartbeats 2000000 in
theorem widen_32_zero (x s : Int) (w : World) (hx : x = s * 2147483648) (s0 : 0 ≤ s) (s1 : s ≤ 1) :
    Calls Try.prog 12 #[.agg #[.int .i64 8, .int .i64 23], .int .u64 x] w (IntRet (s * 9223372036854775808) w) := by
  have q1 : x / 2147483648 = s := by omega
  have q2 : bits .and .u64 s 1 = s := by rw [mask_u64 1 s 1 (by decide) (by decide) (by omega) (by omega)]; omega
  have q3 : bits .and .i64 (x / 8388608) 255 = 0 := by rw [mask_i64 8 (x / 8388608) 255 (by decide) (by decide) (by omega) (by omega)]; omega
  have q4 : bits .and .u64 x 8388607 = 0 := by rw [mask_u64 23 x 8388607 (by decide) (by decide) (by omega) (by omega)]; omega
  have b0 : 0 ≤ x := by omega
  have b1 : x < 4294967296 := by omega
  clear hx
  go_enter Try.func12, Try.ntmps12
  go_wp2
  go_quiet (fail)
  go_wp2
  go_ret
  exact ⟨rfl, below_drewN ((Below.refl _ _).alloc (Nat.le_refl _) _) _⟩

set_option maxHeartbeats 2000000 in
theorem widen_32_norm (x s c f : Int) (w : World) (hx : x = s * 2147483648 + c * 8388608 + f) (s0 : 0 ≤ s) (s1 : s ≤ 1) (c0 : 1 ≤ c) (c1 : c < 255) (f0 : 0 ≤ f) (f1 : f < 8388608) :
    Calls Try.prog 12 #[.agg #[.int .i64 8, .int .i64 23], .int .u64 x] w (IntRet (s * 9223372036854775808 + (c - 127 + 1023) * 4503599627370496 + f * 536870912) w) := by
  have q1 : x / 2147483648 = s := by omega
  have q2 : bits .and .u64 s 1 = s := by rw [mask_u64 1 s 1 (by decide) (by decide) (by omega) (by omega)]; omega
  have q3 : bits .and .i64 (x / 8388608) 255 = c := by rw [mask_i64 8 (x / 8388608) 255 (by decide) (by decide) (by omega) (by omega)]; omega
  have q4 : bits .and .u64 x 8388607 = f := by rw [mask_u64 23 x 8388607 (by decide) (by decide) (by omega) (by omega)]; omega
  have b0 : 0 ≤ x := by omega
  have b1 : x < 4294967296 := by omega
  clear hx
  go_enter Try.func12, Try.ntmps12
  go_wp2
  go_quiet (fail)
  go_wp2
  go_region_held3 (fun w' => w'.cell? ⟨w.heap.size, 0, none⟩ = some (.int .i64 8) ∧ w'.cell? ⟨w.heap.size, 1, none⟩ = some (.int .i64 23)) (simp [go_sem, World.cell?_alloc_past]) (first | (go_at_call 15; refine (bias_32 _).mono ?_; rintro e w' ⟨rfl, rfl⟩))
  go_wp2
  go_ret
  refine ⟨ret_u64 ?_, ?_⟩
  · rw [wrap_i (c - 127) (by omega) (by omega), wrap_i (c - 127 + 1023) (by omega) (by omega), wrap_u (c - 127 + 1023) (by omega) (by omega), wrap_u ((c - 127 + 1023) * 4503599627370496) (by omega) (by omega), wrap_u (f * 536870912) (by omega) (by omega)]
    rw [or_u64 63 s ((c - 127 + 1023) * 4503599627370496) (s * 9223372036854775808) (by omega) s0 (by omega) (by omega) (by omega)]
    rw [or_u64 52 (s * 2048 + (c - 127 + 1023)) (f * 536870912) _ (by omega) (by omega) (by omega) (by omega) (by omega)]
  · exact (below_drewN ((Below.refl _ _).alloc (Nat.le_refl _) _) _).alloc (by simp) _

set_option maxHeartbeats 2000000 in
/-- A subnormal: it is brought up, i times. -/
theorem widen_32_sub (x s f : Int) (w : World) (hx : x = s * 2147483648 + f) (s0 : 0 ≤ s) (s1 : s ≤ 1) (f0 : 1 ≤ f) (f1 : f < 8388608) :
    Calls Try.prog 12 #[.agg #[.int .i64 8, .int .i64 23], .int .u64 x] w (SubRet s f 8388608 536870912 897 w) := by
  have q1 : x / 2147483648 = s := by omega
  have q2 : bits .and .u64 s 1 = s := by rw [mask_u64 1 s 1 (by decide) (by decide) (by omega) (by omega)]; omega
  have q3 : bits .and .i64 (x / 8388608) 255 = 0 := by rw [mask_i64 8 (x / 8388608) 255 (by decide) (by decide) (by omega) (by omega)]; omega
  have q4 : bits .and .u64 x 8388607 = f := by rw [mask_u64 23 x 8388607 (by decide) (by decide) (by omega) (by omega)]; omega
  have b0 : 0 ≤ x := by omega
  have b1 : x < 4294967296 := by omega
  clear hx
  go_enter Try.func12, Try.ntmps12
  go_wp2
  go_quiet (fail)
  go_wp2_with fail
  refine (bias_32 _).mono ?_
  rintro e w' ⟨rfl, rfl⟩
  go_wp2
  clear q1 q2 q3 q4
  go_loop [7, 9] (fun fr ex => ∃ (i : Nat) (g : Int), Hid (g = f * 2 ^ i) ∧ 1 ≤ g ∧ g < 16777216 ∧ i ≤ 23 ∧ fr = .int .u64 g ∧ ex = .int .i64 ((-126) - (i : Int))) (fun fr _ => 16777216 - (intOf fr).toNat)
  case atStart => exact ⟨0, f, hid (by simp), f0, by omega, by omega, rfl, by go_num⟩
  case round =>
    obtain ⟨i, g, hg, g0, g1, hi, rfl, rfl⟩ := hrel
    by_cases hlt : g < 8388608
    · have r1 : g / 8388608 = 0 := by omega
      have hi2 : i + 1 ≤ 23 := sub_more hg.out f0 hlt
      go_wp2
      go_round
      case rel => exact ⟨i + 1, g * 2, hid (by rw [hg.out, Int.pow_succ, Int.mul_assoc]), by omega, by omega, hi2, rfl, by go_num⟩
      case measure => simp [intOf]; omega
    · have r1 : g / 8388608 = 1 := by omega
      have r2 : bits .and .u64 g 8388607 = g - 8388608 := by rw [mask_u64 23 g 8388607 (by decide) (by decide) (by omega) (by omega)]; omega
      go_wp2
      go_ret
      refine ⟨i, g, ret_u64 ?_, hg.out, by omega, by omega, ?_⟩
      · rw [show ((-126) - (i : Int) + 1023) = 897 - (i : Int) by omega]
        rw [or_u64 63 s ((897 - (i : Int)) * 4503599627370496) (s * 9223372036854775808) (by omega) s0 (by omega) (by omega) (by omega)]
        rw [or_u64 52 (s * 2048 + (897 - (i : Int))) ((g - 8388608) * 536870912) _ (by omega) (by omega) (by omega) (by omega) (by omega)]
      · exact (below_drewN ((Below.refl _ _).alloc (Nat.le_refl _) _) _).alloc (by simp) _
end Go.Proofs.Qxb6603006a
