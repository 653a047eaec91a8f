/-
  THE WALKS of (floatFormat).narrow at the format of 32 bits.
-/
import Derived.Test.Qxb6603006aWiden32
namespace Go.Proofs.Qxb6603006a
open Go.RowKit
set_option linter.unusedVariables false

set_option maxHeartbeats 2000000 in
theorem narrow_32_top (b s F : Int) (w : World) (hb : b = s * 9223372036854775808 + 2047 * 4503599627370496 + F) (s0 : 0 ≤ s) (s1 : s ≤ 1) (f0 : 0 ≤ F) (f1 : F < 4503599627370496) :
    Calls Try.prog 14 #[.agg #[.int .i64 8, .int .i64 23], .int .u64 b] w (PairRet (s * 2147483648 + 2139095040 + F / 536870912) (F % 536870912 == 0) w) := by
  have q1 : b / 9223372036854775808 = s := by omega
  have q2 : bits .and .i64 (b / 4503599627370496) 2047 = 2047 := by rw [mask_i64 11 (b / 4503599627370496) 2047 (by decide) (by decide) (by omega) (by omega)]; omega
  have q3 : bits .and .u64 b 4503599627370495 = F := by rw [mask_u64 52 b 4503599627370495 (by decide) (by decide) (by omega) (by omega)]; omega
  have b0 : 0 ≤ b := by omega
  have b1 : b < 18446744073709551616 := by omega
  have HB := hid hb
  obtain ⟨x, hx⟩ : ∃ x, Hid (s * 2147483648 + 2139095040 + F / 536870912 = x) := ⟨_, rfl⟩
  have r1 : bits .or .u64 (s * 2147483648) 2139095040 = s * 2147483648 + 2139095040 := or_u64 31 s 2139095040 _ (by omega) s0 (by decide) (by decide) (by omega)
  have r2 : bits .or .u64 (s * 2147483648 + 2139095040) (F / 536870912) = x := by
    rw [or_u64 23 (s * 256 + 255) (F / 536870912) _ (by omega) (by omega) (by omega) (by omega) (by omega)]; exact hx.out
  clear hb
  go_enter Try.func14, Try.ntmps14
  go_wp2
  go_region_held3 (fun w' => w'.cell? ⟨w.heap.size, 0, none⟩ = some (.int .i64 8) ∧ w'.cell? ⟨w.heap.size, 1, none⟩ = some (.int .i64 23)) (simp [go_sem, World.cell?_alloc_past]) (first | (go_at_call 15; refine (bias_32 _).mono ?_; rintro e w' ⟨rfl, rfl⟩))
  go_wp2
  go_quiet (fail)
  go_wp2_with fail
  refine (widen_32_top x s (F / 536870912) _ (by have := hx.out; omega) s0 s1 (by omega) (by omega)).mono ?_
  rintro e w' ⟨rfl, hbel⟩
  go_wp2
  go_ret2
  refine ⟨ret_pair hx.out.symm (beq_of_iff (by have := HB.out; omega)), Below.trans ?_ (hbel.mono (by simp; try omega))⟩
  repeat (first | exact Below.refl _ _ | refine below_drewN ?_ _ | refine Below.drew ?_ | refine Below.alloc ?_ (by simp; try omega) _)

set_option maxHeartbeats 2000000 in
theorem narrow_32_zero (b s : Int) (w : World) (hb : b = s * 9223372036854775808) (s0 : 0 ≤ s) (s1 : s ≤ 1) :
    Calls Try.prog 14 #[.agg #[.int .i64 8, .int .i64 23], .int .u64 b] w (PairRet (s * 2147483648) true w) := by
  have q1 : b / 9223372036854775808 = s := by omega
  have q2 : bits .and .i64 (b / 4503599627370496) 2047 = 0 := by rw [mask_i64 11 (b / 4503599627370496) 2047 (by decide) (by decide) (by omega) (by omega)]; omega
  have q3 : bits .and .u64 b 4503599627370495 = 0 := by rw [mask_u64 52 b 4503599627370495 (by decide) (by decide) (by omega) (by omega)]; omega
  have b0 : 0 ≤ b := by omega
  have b1 : b < 18446744073709551616 := by omega
  have HB := hid hb
  clear hb
  go_enter Try.func14, Try.ntmps14
  go_wp2
  go_region_held3 (fun w' => w'.cell? ⟨w.heap.size, 0, none⟩ = some (.int .i64 8) ∧ w'.cell? ⟨w.heap.size, 1, none⟩ = some (.int .i64 23)) (simp [go_sem, World.cell?_alloc_past]) (first | (go_at_call 15; refine (bias_32 _).mono ?_; rintro e w' ⟨rfl, rfl⟩))
  go_wp2_with fail
  refine (widen_32_zero (s * 2147483648) s _ rfl s0 s1).mono ?_
  rintro e w' ⟨rfl, hbel⟩
  go_wp2
  go_ret2
  refine ⟨ret_pair rfl (by have := HB.out; simp; omega), Below.trans ?_ (hbel.mono (by simp; try omega))⟩
  repeat (first | exact Below.refl _ _ | refine below_drewN ?_ _ | refine Below.drew ?_ | refine Below.alloc ?_ (by simp; try omega) _)

set_option maxHeartbeats 2000000 in
theorem narrow_32_norm (b s E F : Int) (w : World) (hb : b = s * 9223372036854775808 + E * 4503599627370496 + F) (s0 : 0 ≤ s) (s1 : s ≤ 1) (e0 : 897 ≤ E) (e1 : E ≤ 1150) (f0 : 0 ≤ F) (f1 : F < 4503599627370496) :
    Calls Try.prog 14 #[.agg #[.int .i64 8, .int .i64 23], .int .u64 b] w (PairRet (s * 2147483648 + (E - 1023 + 127) * 8388608 + F / 536870912) (F % 536870912 == 0) w) := by
  have q1 : b / 9223372036854775808 = s := by omega
  have q2 : bits .and .i64 (b / 4503599627370496) 2047 = E := by rw [mask_i64 11 (b / 4503599627370496) 2047 (by decide) (by decide) (by omega) (by omega)]; omega
  have q3 : bits .and .u64 b 4503599627370495 = F := by rw [mask_u64 52 b 4503599627370495 (by decide) (by decide) (by omega) (by omega)]; omega
  have b0 : 0 ≤ b := by omega
  have b1 : b < 18446744073709551616 := by omega
  have HB := hid hb
  obtain ⟨x, hx⟩ : ∃ x, Hid (s * 2147483648 + (E - 1023 + 127) * 8388608 + F / 536870912 = x) := ⟨_, rfl⟩
  have r1 : bits .or .u64 (s * 2147483648) ((E - 1023 + 127) * 8388608) = s * 2147483648 + (E - 1023 + 127) * 8388608 := or_u64 31 s _ _ (by omega) s0 (by omega) (by omega) (by omega)
  have r2 : bits .or .u64 (s * 2147483648 + (E - 1023 + 127) * 8388608) (F / 536870912) = x := by
    rw [or_u64 23 (s * 256 + (E - 1023 + 127)) (F / 536870912) _ (by omega) (by omega) (by omega) (by omega) (by omega)]; exact hx.out
  clear hb
  go_enter Try.func14, Try.ntmps14
  go_wp2
  go_region_held3 (fun w' => w'.cell? ⟨w.heap.size, 0, none⟩ = some (.int .i64 8) ∧ w'.cell? ⟨w.heap.size, 1, none⟩ = some (.int .i64 23)) (simp [go_sem, World.cell?_alloc_past]) (first | (go_at_call 15; refine (bias_32 _).mono ?_; rintro e w' ⟨rfl, rfl⟩))
  go_wp2_with fail
  go_region_held3 (fun w' => w'.cell? ⟨w.heap.size, 0, none⟩ = some (.int .i64 8) ∧ w'.cell? ⟨w.heap.size, 1, none⟩ = some (.int .i64 23)) (simp [go_sem, World.cell?_alloc_past]) (first | (go_at_call 15; refine (bias_32 _).mono ?_; rintro e w' ⟨rfl, rfl⟩))
  go_wp2_with fail
  rw [r1, r2]
  refine (widen_32_norm x s (E - 1023 + 127) (F / 536870912) _ (by have := hx.out; omega) s0 s1 (by omega) (by omega) (by omega) (by omega)).mono ?_
  rintro e w' ⟨rfl, hbel⟩
  go_wp2
  go_ret2
  refine ⟨ret_pair (by rw [wrap_i (E - 1023 + 127) (by omega) (by omega), wrap_u (E - 1023 + 127) (by omega) (by omega), wrap_u ((E - 1023 + 127) * 8388608) (by omega) (by omega), r1, r2]; exact hx.out.symm) (beq_of_iff (by have := HB.out; omega)), Below.trans ?_ (hbel.mono (by simp; try omega))⟩
  repeat (first | exact Below.refl _ _ | refine below_drewN ?_ _ | refine Below.drew ?_ | refine Below.alloc ?_ (by simp; try omega) _)

set_option maxHeartbeats 2000000 in
theorem narrow_32_sub (b s E F M n : Int) (j : Nat) (w : World) (hb : b = s * 9223372036854775808 + E * 4503599627370496 + F) (s0 : 0 ≤ s) (s1 : s ≤ 1) (hE : E = 897 - (j : Int)) (j0 : 1 ≤ j) (j1 : j ≤ 23) (f0 : 0 ≤ F) (f1 : F < 4503599627370496) (hM : M = 4503599627370496 + F) (hn : n = M / 2 ^ (29 + j)) :
    Calls Try.prog 14 #[.agg #[.int .i64 8, .int .i64 23], .int .u64 b] w (PairRet (s * 2147483648 + n) (M % 2 ^ (29 + j) == 0) w) := by
  have e0 : 874 ≤ E := by omega
  have e1 : E ≤ 896 := by omega
  obtain ⟨n0, n1, n2, n3⟩ := sub_bounds 23 29 j 8388608 536870912 M n (by decide) (by decide) j0 j1 (by omega) (by omega) hn
  have q1 : b / 9223372036854775808 = s := by omega
  have q2 : bits .and .i64 (b / 4503599627370496) 2047 = E := by rw [mask_i64 11 (b / 4503599627370496) 2047 (by decide) (by decide) (by omega) (by omega)]; omega
  have q3 : bits .and .u64 b 4503599627370495 = F := by rw [mask_u64 52 b 4503599627370495 (by decide) (by decide) (by omega) (by omega)]; omega
  have b0 : 0 ≤ b := by omega
  have b1 : b < 18446744073709551616 := by omega
  have HB := hid hb
  have q4 : bits .or .u64 4503599627370496 F = M := by rw [or_u64 52 1 F 4503599627370496 (by decide) (by decide) (by omega) (by omega) (by omega)]; omega
  have q5 : M / 2 ^ ((-97) - (E - 1023)).toNat = n := by rw [show ((-97) - (E - 1023)).toNat = 29 + j by omega]; exact hn.symm
  obtain ⟨x, hx⟩ : ∃ x, Hid (s * 2147483648 + n = x) := ⟨_, rfl⟩
  have r1 : bits .or .u64 (s * 2147483648) n = x := by
    rw [or_u64 31 s n _ (by omega) s0 (by omega) (by omega) (by omega)]; exact hx.out
  have m0 : 4503599627370496 ≤ M := by omega
  have m1 : M < 9007199254740992 := by omega
  have HE := hid hE
  have HM := hid hM
  have HN := hid hn
  have N2 := hid n2
  have N3 := hid n3
  clear hE hM hn n2 n3
  clear hb
  go_enter Try.func14, Try.ntmps14
  go_wp2
  go_region_held3 (fun w' => w'.cell? ⟨w.heap.size, 0, none⟩ = some (.int .i64 8) ∧ w'.cell? ⟨w.heap.size, 1, none⟩ = some (.int .i64 23)) (simp [go_sem, World.cell?_alloc_past]) (first | (go_at_call 15; refine (bias_32 _).mono ?_; rintro e w' ⟨rfl, rfl⟩))
  go_wp2_with fail
  refine (widen_32_sub x s n _ (by have := hx.out; omega) s0 s1 n0 n1).mono ?_
  rintro e w' ⟨i, g, rfl, hg, g0, g1, hbel⟩
  have HG := hid hg
  clear hg
  go_wp2
  go_ret2
  refine ⟨ret_pair hx.out.symm (beq_of_iff ?_), Below.trans ?_ (hbel.mono (by simp; try omega))⟩
  · rw [HB.out, HE.out, show F = M - 4503599627370496 by have := HM.out; omega]
    exact sub_iff 29 j i s 8388608 536870912 897 M n g (by decide) (by decide) n0 HN.out N2.out N3.out HG.out g0 g1
  · repeat (first | exact Below.refl _ _ | refine below_drewN ?_ _ | refine Below.drew ?_ | refine Below.alloc ?_ (by simp; try omega) _)

set_option maxHeartbeats 2000000 in
/-- A subnormal of binary64. -/
theorem narrow_32_d1 (b s F : Int) (w : World) (hb : b = s * 9223372036854775808 + F) (s0 : 0 ≤ s) (s1 : s ≤ 1) (f0 : 1 ≤ F) (f1 : F < 4503599627370496) :
    Calls Try.prog 14 #[.agg #[.int .i64 8, .int .i64 23], .int .u64 b] w (PairRet 0 false w) := by
  have q1 : b / 9223372036854775808 = s := by omega
  have q2 : bits .and .i64 (b / 4503599627370496) 2047 = 0 := by rw [mask_i64 11 (b / 4503599627370496) 2047 (by decide) (by decide) (by omega) (by omega)]; omega
  have q3 : bits .and .u64 b 4503599627370495 = F := by rw [mask_u64 52 b 4503599627370495 (by decide) (by decide) (by omega) (by omega)]; omega
  have b0 : 0 ≤ b := by omega
  have b1 : b < 18446744073709551616 := by omega
  have HB := hid hb
  clear hb
  go_enter Try.func14, Try.ntmps14
  go_wp2
  go_region_held3 (fun w' => w'.cell? ⟨w.heap.size, 0, none⟩ = some (.int .i64 8) ∧ w'.cell? ⟨w.heap.size, 1, none⟩ = some (.int .i64 23)) (simp [go_sem, World.cell?_alloc_past]) (first | (go_at_call 15; refine (bias_32 _).mono ?_; rintro e w' ⟨rfl, rfl⟩))
  go_wp2
  go_ret2
  refine ⟨rfl, ?_⟩
  repeat (first | exact Below.refl _ _ | refine below_drewN ?_ _ | refine Below.drew ?_ | refine Below.alloc ?_ (by simp; try omega) _)

set_option maxHeartbeats 2000000 in
/-- Too great. -/
theorem narrow_32_d2 (b s E F : Int) (w : World) (hb : b = s * 9223372036854775808 + E * 4503599627370496 + F) (s0 : 0 ≤ s) (s1 : s ≤ 1) (e0 : 1150 < E) (e1 : E < 2047) (f0 : 0 ≤ F) (f1 : F < 4503599627370496) :
    Calls Try.prog 14 #[.agg #[.int .i64 8, .int .i64 23], .int .u64 b] w (PairRet 0 false w) := by
  have q1 : b / 9223372036854775808 = s := by omega
  have q2 : bits .and .i64 (b / 4503599627370496) 2047 = E := by rw [mask_i64 11 (b / 4503599627370496) 2047 (by decide) (by decide) (by omega) (by omega)]; omega
  have q3 : bits .and .u64 b 4503599627370495 = F := by rw [mask_u64 52 b 4503599627370495 (by decide) (by decide) (by omega) (by omega)]; omega
  have b0 : 0 ≤ b := by omega
  have b1 : b < 18446744073709551616 := by omega
  have HB := hid hb
  clear hb
  go_enter Try.func14, Try.ntmps14
  go_wp2
  go_region_held3 (fun w' => w'.cell? ⟨w.heap.size, 0, none⟩ = some (.int .i64 8) ∧ w'.cell? ⟨w.heap.size, 1, none⟩ = some (.int .i64 23)) (simp [go_sem, World.cell?_alloc_past]) (first | (go_at_call 15; refine (bias_32 _).mono ?_; rintro e w' ⟨rfl, rfl⟩))
  go_wp2
  go_ret2
  refine ⟨rfl, ?_⟩
  repeat (first | exact Below.refl _ _ | refine below_drewN ?_ _ | refine Below.drew ?_ | refine Below.alloc ?_ (by simp; try omega) _)

set_option maxHeartbeats 2000000 in
/-- Too small. -/
theorem narrow_32_d3 (b s E F : Int) (w : World) (hb : b = s * 9223372036854775808 + E * 4503599627370496 + F) (s0 : 0 ≤ s) (s1 : s ≤ 1) (e0 : 1 ≤ E) (e1 : E < 874) (f0 : 0 ≤ F) (f1 : F < 4503599627370496) :
    Calls Try.prog 14 #[.agg #[.int .i64 8, .int .i64 23], .int .u64 b] w (PairRet 0 false w) := by
  have q1 : b / 9223372036854775808 = s := by omega
  have q2 : bits .and .i64 (b / 4503599627370496) 2047 = E := by rw [mask_i64 11 (b / 4503599627370496) 2047 (by decide) (by decide) (by omega) (by omega)]; omega
  have q3 : bits .and .u64 b 4503599627370495 = F := by rw [mask_u64 52 b 4503599627370495 (by decide) (by decide) (by omega) (by omega)]; omega
  have b0 : 0 ≤ b := by omega
  have b1 : b < 18446744073709551616 := by omega
  have HB := hid hb
  clear hb
  go_enter Try.func14, Try.ntmps14
  go_wp2
  go_region_held3 (fun w' => w'.cell? ⟨w.heap.size, 0, none⟩ = some (.int .i64 8) ∧ w'.cell? ⟨w.heap.size, 1, none⟩ = some (.int .i64 23)) (simp [go_sem, World.cell?_alloc_past]) (first | (go_at_call 15; refine (bias_32 _).mono ?_; rintro e w' ⟨rfl, rfl⟩))
  go_wp2
  go_ret2
  refine ⟨rfl, ?_⟩
  repeat (first | exact Below.refl _ _ | refine below_drewN ?_ _ | refine Below.drew ?_ | refine Below.alloc ?_ (by simp; try omega) _)
end Go.Proofs.Qxb6603006a
