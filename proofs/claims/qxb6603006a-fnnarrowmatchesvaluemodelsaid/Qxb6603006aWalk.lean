/-
  THE LAW's WALK: the formats, ZZNarrow, the law; all cases of the pattern joined.
-/
import Derived.Test.Qxb6603006aNarrow16
import Derived.Test.Qxb6603006aNarrow32
import Derived.Test.Qxb6603006aModel16
import Derived.Test.Qxb6603006aModel32
namespace Go.Proofs.Qxb6603006a
open Go.RowKit
set_option linter.unusedVariables false

def BoolRet (b : Bool) (w : World) (e : Ending) (w' : World) : Prop := e = .returned (.bool b) ∧ w = w'
theorem fmt_no (a0 a1 : Int) (w : World) (h1 : ¬ (a0 = 5 ∧ a1 = 10)) (h2 : ¬ (a0 = 8 ∧ a1 = 23)) : Calls Try.prog 7 #[.int .i64 a0, .int .i64 a1] w (BoolRet false w) := by
  by_cases e5 : a0 = 5
  · subst e5
    have h3 : (a1 == 10) = false := by simp at h1 ⊢; exact h1
    clear h1 h2
    go_enter Try.func7, Try.ntmps7
    go_wp2
    go_ret
    exact ⟨rfl, rfl⟩
  · have e5' : (a0 == 5) = false := by simpa using e5
    by_cases e8 : a0 = 8
    · subst e8
      have h3 : (a1 == 23) = false := by simp at h2 ⊢; exact h2
      clear h1 h2 e5 e5'
      go_enter Try.func7, Try.ntmps7
      go_wp2
      go_ret
      exact ⟨rfl, rfl⟩
    · have e8' : (a0 == 8) = false := by simpa using e8
      clear h1 h2
      go_enter Try.func7, Try.ntmps7
      go_wp2
      go_ret
      exact ⟨rfl, rfl⟩

theorem fmt_16 (w : World) : Calls Try.prog 7 #[.int .i64 5, .int .i64 10] w (BoolRet true w) := by
  go_enter Try.func7, Try.ntmps7
  go_wp2
  go_ret
  exact ⟨rfl, rfl⟩
theorem znarrow_16 (b X : Int) (ok : Bool) (w : World) (h : ∀ w, Calls Try.prog 14 #[.agg #[.int .i64 5, .int .i64 10], .int .u64 b] w (PairRet X ok w)) :
    Calls Try.prog 10 #[.int .i64 5, .int .i64 10, .int .u64 b] w (PairRet X ok w) := by
  have H := hid h
  clear h
  go_enter Try.func10, Try.ntmps10
  go_wp2_with fail
  refine (H.out _).mono ?_
  rintro e w' ⟨rfl, hb⟩
  go_wp2
  go_ret2
  exact ⟨rfl, hb⟩
theorem law_16 (b X : Int) (ok : Bool) (w : World) (h : ∀ w, Calls Try.prog 14 #[.agg #[.int .i64 5, .int .i64 10], .int .u64 b] w (PairRet X ok w)) (hm : ∀ w, Calls Try.prog 11 #[.int .i64 5, .int .i64 10, .int .u64 b] w (PairRet X ok w)) :
    Calls Try.prog 5 #[.int .i64 5, .int .i64 10, .int .u64 b] w fun e w' => e = .returned (.bool true) ∧ Below w.heap.size w w' := by
  have H := hid h
  have HM := hid hm
  clear h hm
  go_enter Try.func5, Try.ntmps5
  go_wp2_with fail
  refine (fmt_16 w).mono ?_
  rintro e w' ⟨rfl, rfl⟩
  go_wp2_with fail
  refine (znarrow_16 b X ok w H.out).mono ?_
  rintro e w1 ⟨rfl, hb1⟩
  go_wp2_with fail
  refine (HM.out w1).mono ?_
  rintro e w2 ⟨rfl, hb2⟩
  go_wp2
  go_ret
  exact ⟨by simp, hb1.trans (hb2.mono hb1.size)⟩

theorem fmt_32 (w : World) : Calls Try.prog 7 #[.int .i64 8, .int .i64 23] w (BoolRet true w) := by
  go_enter Try.func7, Try.ntmps7
  go_wp2
  go_ret
  exact ⟨rfl, rfl⟩
theorem znarrow_32 (b X : Int) (ok : Bool) (w : World) (h : ∀ w, Calls Try.prog 14 #[.agg #[.int .i64 8, .int .i64 23], .int .u64 b] w (PairRet X ok w)) :
    Calls Try.prog 10 #[.int .i64 8, .int .i64 23, .int .u64 b] w (PairRet X ok w) := by
  have H := hid h
  clear h
  go_enter Try.func10, Try.ntmps10
  go_wp2_with fail
  refine (H.out _).mono ?_
  rintro e w' ⟨rfl, hb⟩
  go_wp2
  go_ret2
  exact ⟨rfl, hb⟩
theorem law_32 (b X : Int) (ok : Bool) (w : World) (h : ∀ w, Calls Try.prog 14 #[.agg #[.int .i64 8, .int .i64 23], .int .u64 b] w (PairRet X ok w)) (hm : ∀ w, Calls Try.prog 11 #[.int .i64 8, .int .i64 23, .int .u64 b] w (PairRet X ok w)) :
    Calls Try.prog 5 #[.int .i64 8, .int .i64 23, .int .u64 b] w fun e w' => e = .returned (.bool true) ∧ Below w.heap.size w w' := by
  have H := hid h
  have HM := hid hm
  clear h hm
  go_enter Try.func5, Try.ntmps5
  go_wp2_with fail
  refine (fmt_32 w).mono ?_
  rintro e w' ⟨rfl, rfl⟩
  go_wp2_with fail
  refine (znarrow_32 b X ok w H.out).mono ?_
  rintro e w1 ⟨rfl, hb1⟩
  go_wp2_with fail
  refine (HM.out w1).mono ?_
  rintro e w2 ⟨rfl, hb2⟩
  go_wp2
  go_ret
  exact ⟨by simp, hb1.trans (hb2.mono hb1.size)⟩

/-- Another format: the law lets it by. -/
theorem law_no (a0 a1 b : Int) (w : World) (h1 : ¬ (a0 = 5 ∧ a1 = 10)) (h2 : ¬ (a0 = 8 ∧ a1 = 23)) :
    Calls Try.prog 5 #[.int .i64 a0, .int .i64 a1, .int .u64 b] w fun e w' => e = .returned (.bool true) ∧ Below w.heap.size w w' := by
  have H1 := hid h1
  have H2 := hid h2
  clear h1 h2
  go_enter Try.func5, Try.ntmps5
  go_wp2_with fail
  refine (fmt_no a0 a1 w H1.out H2.out).mono ?_
  rintro e w' ⟨rfl, rfl⟩
  go_wp2
  go_ret
  exact ⟨rfl, Below.refl _ _⟩

/-- A pattern is sign, exponent, fraction. -/
theorem parts (b : Int) (h0 : 0 ≤ b) (h1 : b < 18446744073709551616) : ∃ s E F : Int, b = s * 9223372036854775808 + E * 4503599627370496 + F ∧ 0 ≤ s ∧ s ≤ 1 ∧ 0 ≤ E ∧ E ≤ 2047 ∧ 0 ≤ F ∧ F < 4503599627370496 :=
  ⟨b / 9223372036854775808, b / 4503599627370496 % 2048, b % 4503599627370496, by omega, by omega, by omega, by omega, by omega, by omega, by omega⟩

theorem law_all_16 (b : Int) (w : World) (h0 : 0 ≤ b) (h1 : b < 18446744073709551616) :
    Calls Try.prog 5 #[.int .i64 5, .int .i64 10, .int .u64 b] w fun e w' => e = .returned (.bool true) ∧ Below w.heap.size w w' := by
  obtain ⟨s, E, F, hb, s0, s1, e0, e1, f0, f1⟩ := parts b h0 h1
  by_cases c1 : E = 2047
  · subst c1
    exact law_16 b _ _ w (fun w => narrow_16_top b s F w hb s0 s1 f0 f1) (fun w => model_16_top b s F w hb s0 s1 f0 f1)
  by_cases c2 : E = 0
  · subst c2
    by_cases c3 : F = 0
    · subst c3
      exact law_16 b _ _ w (fun w => narrow_16_zero b s w (by omega) s0 s1) (fun w => model_16_zero b s w (by omega) s0 s1)
    · exact law_16 b _ _ w (fun w => narrow_16_d1 b s F w (by omega) s0 s1 (by omega) f1) (fun w => model_16_d1 b s F w (by omega) s0 s1 (by omega) f1)
  by_cases c4 : 1038 < E
  · exact law_16 b _ _ w (fun w => narrow_16_d2 b s E F w hb s0 s1 c4 (by omega) f0 f1) (fun w => model_16_d2 b s E F w hb s0 s1 c4 (by omega) f0 f1)
  by_cases c5 : 1009 ≤ E
  · exact law_16 b _ _ w (fun w => narrow_16_norm b s E F w hb s0 s1 c5 (by omega) f0 f1) (fun w => model_16_norm b s E F _ w hb s0 s1 c5 (by omega) f0 f1 rfl)
  by_cases c6 : E < 999
  · exact law_16 b _ _ w (fun w => narrow_16_d3 b s E F w hb s0 s1 (by omega) c6 f0 f1) (fun w => model_16_d3 b s E F _ w hb s0 s1 (by omega) c6 f0 f1 rfl)
  · exact law_16 b _ _ w (fun w => narrow_16_sub b s E F _ _ (1009 - E).toNat w hb s0 s1 (by omega) (by omega) (by omega) f0 f1 rfl rfl) (fun w => model_16_sub b s E F _ _ (1009 - E).toNat w hb s0 s1 (by omega) (by omega) (by omega) f0 f1 rfl rfl)

theorem law_all_32 (b : Int) (w : World) (h0 : 0 ≤ b) (h1 : b < 18446744073709551616) :
    Calls Try.prog 5 #[.int .i64 8, .int .i64 23, .int .u64 b] w fun e w' => e = .returned (.bool true) ∧ Below w.heap.size w w' := by
  obtain ⟨s, E, F, hb, s0, s1, e0, e1, f0, f1⟩ := parts b h0 h1
  by_cases c1 : E = 2047
  · subst c1
    exact law_32 b _ _ w (fun w => narrow_32_top b s F w hb s0 s1 f0 f1) (fun w => model_32_top b s F w hb s0 s1 f0 f1)
  by_cases c2 : E = 0
  · subst c2
    by_cases c3 : F = 0
    · subst c3
      exact law_32 b _ _ w (fun w => narrow_32_zero b s w (by omega) s0 s1) (fun w => model_32_zero b s w (by omega) s0 s1)
    · exact law_32 b _ _ w (fun w => narrow_32_d1 b s F w (by omega) s0 s1 (by omega) f1) (fun w => model_32_d1 b s F w (by omega) s0 s1 (by omega) f1)
  by_cases c4 : 1150 < E
  · exact law_32 b _ _ w (fun w => narrow_32_d2 b s E F w hb s0 s1 c4 (by omega) f0 f1) (fun w => model_32_d2 b s E F w hb s0 s1 c4 (by omega) f0 f1)
  by_cases c5 : 897 ≤ E
  · exact law_32 b _ _ w (fun w => narrow_32_norm b s E F w hb s0 s1 c5 (by omega) f0 f1) (fun w => model_32_norm b s E F _ w hb s0 s1 c5 (by omega) f0 f1 rfl)
  by_cases c6 : E < 874
  · exact law_32 b _ _ w (fun w => narrow_32_d3 b s E F w hb s0 s1 (by omega) c6 f0 f1) (fun w => model_32_d3 b s E F _ w hb s0 s1 (by omega) c6 f0 f1 rfl)
  · exact law_32 b _ _ w (fun w => narrow_32_sub b s E F _ _ (897 - E).toNat w hb s0 s1 (by omega) (by omega) (by omega) f0 f1 rfl rfl) (fun w => model_32_sub b s E F _ _ (897 - E).toNat w hb s0 s1 (by omega) (by omega) (by omega) f0 f1 rfl rfl)

theorem law_any (a0 a1 b : Int) (w : World) (h0 : 0 ≤ b) (h1 : b < 18446744073709551616) :
    Calls Try.prog 5 #[.int .i64 a0, .int .i64 a1, .int .u64 b] w fun e w' => e = .returned (.bool true) ∧ Below w.heap.size w w' := by
  by_cases e1 : a0 = 5 ∧ a1 = 10
  · obtain ⟨rfl, rfl⟩ := e1
    exact law_all_16 b w h0 h1
  by_cases e2 : a0 = 8 ∧ a1 = 23
  · obtain ⟨rfl, rfl⟩ := e2
    exact law_all_32 b w h0 h1
  · exact law_no a0 a1 b w e1 e2
end Go.Proofs.Qxb6603006a
