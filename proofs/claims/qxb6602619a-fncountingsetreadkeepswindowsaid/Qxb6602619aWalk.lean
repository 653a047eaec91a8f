/-
  THE LAW's WALK, all ways joined: the early returns, and the four cases of the window.
-/
import Derived.Test.Qxb6602619aWalkH
import Derived.Test.Qxb6602619aWalkI
import Derived.Test.Qxb6602619aWalkJ
import Derived.ProofKit
namespace Go.Proofs.Qxb6602619a
open Go.RowKit Mem Plain
set_option linter.unusedVariables false

set_option maxRecDepth 20000 in
theorem early_a (a0 a1 : Option Addr) (n0 c0 n1 c1 : Nat) (h index most : Int) (inClass : Bool) (w : World) (h0 : n0 ≤ maxLen) (h1 : n1 ≤ maxLen)
    (hx : 65536 < n0) :
    Calls Try.prog 5 #[.slice a0 n0 c0, .slice a1 n1 c1, .int .i64 h, .int .i64 index, .bool inClass, .int .i64 most] w (TrueRet w) := by
  go_enter Try.func5, Try.ntmps5
  go_wp2_with fail
  refine (bytes_any a0 a1 n0 c0 n1 c1 _ _ _ _ _ h0 h1).mono ?_
  rintro e w' ⟨b, rfl, rfl⟩
  cases b
  · go_wp2
    go_ret
    exact ⟨rfl, Below.refl _ _⟩
  go_wp2_with fail
  go_ret
  exact ⟨rfl, Below.refl _ _⟩

set_option maxRecDepth 20000 in
theorem early_b (a0 a1 : Option Addr) (n0 c0 n1 c1 : Nat) (h index most : Int) (inClass : Bool) (w : World) (h0 : n0 ≤ maxLen) (h1 : n1 ≤ maxLen)
    (hx : n0 ≤ 65536) (hy : 65536 < n1) :
    Calls Try.prog 5 #[.slice a0 n0 c0, .slice a1 n1 c1, .int .i64 h, .int .i64 index, .bool inClass, .int .i64 most] w (TrueRet w) := by
  go_enter Try.func5, Try.ntmps5
  go_wp2_with fail
  refine (bytes_any a0 a1 n0 c0 n1 c1 _ _ _ _ _ h0 h1).mono ?_
  rintro e w' ⟨b, rfl, rfl⟩
  cases b
  · go_wp2
    go_ret
    exact ⟨rfl, Below.refl _ _⟩
  go_wp2_with fail
  go_ret
  exact ⟨rfl, Below.refl _ _⟩

set_option maxRecDepth 20000 in
theorem early_c (a0 a1 : Option Addr) (n0 c0 n1 c1 : Nat) (h index most : Int) (inClass : Bool) (w : World) (h0 : n0 ≤ maxLen) (h1 : n1 ≤ maxLen)
    (hx : n0 ≤ 65536) (hy : n1 ≤ 65536) (hz : n0 ≠ n1) :
    Calls Try.prog 5 #[.slice a0 n0 c0, .slice a1 n1 c1, .int .i64 h, .int .i64 index, .bool inClass, .int .i64 most] w (TrueRet w) := by
  go_enter Try.func5, Try.ntmps5
  go_wp2_with fail
  refine (bytes_any a0 a1 n0 c0 n1 c1 _ _ _ _ _ h0 h1).mono ?_
  rintro e w' ⟨b, rfl, rfl⟩
  cases b
  · go_wp2
    go_ret
    exact ⟨rfl, Below.refl _ _⟩
  go_wp2_with fail
  go_ret
  exact ⟨rfl, Below.refl _ _⟩

set_option maxRecDepth 20000 in
theorem early_d (a0 a1 : Option Addr) (n c0 c1 : Nat) (h index most : Int) (inClass : Bool) (w : World) (hn : n ≤ 65536)
    (hx : h < 0) :
    Calls Try.prog 5 #[.slice a0 n c0, .slice a1 n c1, .int .i64 h, .int .i64 index, .bool inClass, .int .i64 most] w (TrueRet w) := by
  go_enter Try.func5, Try.ntmps5
  go_wp2_with fail
  refine (bytes_any a0 a1 n c0 n c1 _ _ _ _ _ (by unfold maxLen; omega) (by unfold maxLen; omega)).mono ?_
  rintro e w' ⟨b, rfl, rfl⟩
  cases b
  · go_wp2
    go_ret
    exact ⟨rfl, Below.refl _ _⟩
  go_wp2_with fail
  go_ret
  exact ⟨rfl, Below.refl _ _⟩

set_option maxRecDepth 20000 in
theorem early_e (a0 a1 : Option Addr) (n c0 c1 : Nat) (h index most : Int) (inClass : Bool) (w : World) (hn : n ≤ 65536)
    (hx : (n : Int) < h) (hy : ¬ h < 0) :
    Calls Try.prog 5 #[.slice a0 n c0, .slice a1 n c1, .int .i64 h, .int .i64 index, .bool inClass, .int .i64 most] w (TrueRet w) := by
  go_enter Try.func5, Try.ntmps5
  go_wp2_with fail
  refine (bytes_any a0 a1 n c0 n c1 _ _ _ _ _ (by unfold maxLen; omega) (by unfold maxLen; omega)).mono ?_
  rintro e w' ⟨b, rfl, rfl⟩
  cases b
  · go_wp2
    go_ret
    exact ⟨rfl, Below.refl _ _⟩
  go_wp2_with fail
  go_ret
  exact ⟨rfl, Below.refl _ _⟩

set_option maxRecDepth 20000 in
/-- The newest run lies beyond index. -/
theorem early_f (a0 a1 : Option Addr) (n c0 c1 h : Nat) (ps : List (Int × Int)) (w : World) (index most : Int) (inClass : Bool) (h0 : Row .i64 w a0 n (ps.map (·.1))) (h1 : Row .i64 w a1 n (ps.map (·.2))) (hn : n ≤ 65536) (hh : h < n)
    (hle : index < (ps.map (·.2)).getD (n - 1) 0) :
    Calls Try.prog 5 #[.slice a0 n c0, .slice a1 n c1, .int .i64 h, .int .i64 index, .bool inClass, .int .i64 most] w (TrueRet w) := by
  have H0 := hid h0
  have H1 := hid h1
  clear h0 h1
  go_enter Try.func5, Try.ntmps5
  go_wp2_with fail
  refine (bytes_any a0 a1 n c0 n c1 _ _ _ _ _ (by unfold maxLen; omega) (by unfold maxLen; omega)).mono ?_
  rintro e w' ⟨b, rfl, rfl⟩
  cases b
  · go_wp2
    go_ret
    exact ⟨rfl, Below.refl _ _⟩
  go_wp2_with fail
  refine (live_any a0 a1 n c0 c1 h (ps.map (·.1)) (ps.map (·.2)) w H0.out H1.out (Nat.le_of_lt hh) hn).mono ?_
  rintro e w1 ⟨b, rfl, hwf, hb1⟩
  clear hwf
  cases b
  · go_wp2
    go_ret
    exact ⟨rfl, hb1⟩
  obtain ⟨b1, o1, e1, hbl1, hc1⟩ := H1.out.2 (by omega)
  subst e1
  have c1k : w1.cell? ⟨b1, o1 + (n - 1), none⟩ = some (.int .i64 ((ps.map (·.2)).getD (n - 1) 0)) := by rw [hb1.cell (p := ⟨b1, o1 + (n - 1), none⟩) hbl1]; exact hc1 (n - 1) (by omega)
  generalize (ps.map (·.2)).getD (n - 1) 0 = l at c1k hle
  clear hc1
  go_wp2_with fail
  go_ret
  exact ⟨rfl, hb1⟩

set_option maxRecDepth 20000 in
/-- The window's lower end would not fit an int. -/
theorem early_g (a0 a1 : Option Addr) (n c0 c1 h : Nat) (ps : List (Int × Int)) (w : World) (index most : Int) (h0 : Row .i64 w a0 n (ps.map (·.1))) (h1 : Row .i64 w a1 n (ps.map (·.2))) (hn : n ≤ 65536) (hh : h ≤ n)
    (hle : h < n → (ps.map (·.2)).getD (n - 1) 0 ≤ index) (hm : 0 < most) (hmw : most ≤ 9223372036854775807) (hx : index < -9223372036854775808 + most) :
    Calls Try.prog 5 #[.slice a0 n c0, .slice a1 n c1, .int .i64 h, .int .i64 index, .bool true, .int .i64 most] w (TrueRet w) := by
  have H0 := hid h0
  have H1 := hid h1
  have HLE := hid hle
  clear h0 h1 hle
  go_enter Try.func5, Try.ntmps5
  go_wp2_with fail
  refine (bytes_any a0 a1 n c0 n c1 _ _ _ _ _ (by unfold maxLen; omega) (by unfold maxLen; omega)).mono ?_
  rintro e w' ⟨b, rfl, rfl⟩
  cases b
  · go_wp2
    go_ret
    exact ⟨rfl, Below.refl _ _⟩
  go_wp2_with fail
  refine (live_any a0 a1 n c0 c1 h (ps.map (·.1)) (ps.map (·.2)) w H0.out H1.out hh hn).mono ?_
  rintro e w1 ⟨b, rfl, hwf, hb1⟩
  clear hwf
  cases b
  · go_wp2
    go_ret
    exact ⟨rfl, hb1⟩
  by_cases hlt : h < n
  · obtain ⟨b1, o1, e1, hbl1, hc1⟩ := H1.out.2 (by omega)
    subst e1
    have c1k : w1.cell? ⟨b1, o1 + (n - 1), none⟩ = some (.int .i64 ((ps.map (·.2)).getD (n - 1) 0)) := by rw [hb1.cell (p := ⟨b1, o1 + (n - 1), none⟩) hbl1]; exact hc1 (n - 1) (by omega)
    have hle := HLE.out hlt
    generalize (ps.map (·.2)).getD (n - 1) 0 = l at c1k hle
    clear hc1
    go_wp2_with fail
    go_ret
    exact ⟨rfl, hb1⟩
  · have hd : decide ((h : Int) < (n : Int)) = false := by simp; omega
    go_wp2_with fail
    go_ret
    exact ⟨rfl, hb1⟩

/-- All ways. -/
theorem law_any (a0 a1 : Option Addr) (n0 c0 n1 c1 : Nat) (h index most : Int) (inClass : Bool) (fs ls : List Int) (w : World) (h0 : Row .i64 w a0 n0 fs) (h1 : Row .i64 w a1 n1 ls) (hm0 : n0 ≤ maxLen) (hm1 : n1 ≤ maxLen)
    (ha0 : a0 = none → n0 = 0 ∧ c0 = 0) (ha1 : a1 = none → n1 = 0 ∧ c1 = 0)
    (hfr : ∀ x ∈ fs, -9223372036854775808 ≤ x ∧ x ≤ 9223372036854775807) (hlr : ∀ x ∈ ls, -9223372036854775808 ≤ x ∧ x ≤ 9223372036854775807)
    (hi : -9223372036854775808 ≤ index ∧ index ≤ 9223372036854775807) (hms : -9223372036854775808 ≤ most ∧ most ≤ 9223372036854775807) :
    Calls Try.prog 5 #[.slice a0 n0 c0, .slice a1 n1 c1, .int .i64 h, .int .i64 index, .bool inClass, .int .i64 most] w (TrueRet w) := by
  by_cases e1 : 65536 < n0
  · exact early_a a0 a1 n0 c0 n1 c1 h index most inClass w hm0 hm1 e1
  by_cases e2 : 65536 < n1
  · exact early_b a0 a1 n0 c0 n1 c1 h index most inClass w hm0 hm1 (by omega) e2
  by_cases e3 : n0 ≠ n1
  · exact early_c a0 a1 n0 c0 n1 c1 h index most inClass w hm0 hm1 (by omega) (by omega) e3
  obtain rfl : n0 = n1 := by omega
  by_cases e4 : h < 0
  · exact early_d a0 a1 n0 c0 c1 h index most inClass w (by omega) e4
  by_cases e5 : (n0 : Int) < h
  · exact early_e a0 a1 n0 c0 c1 h index most inClass w (by omega) e5 e4
  obtain ⟨k, rfl⟩ := Int.eq_ofNat_of_zero_le (by omega : 0 ≤ h)
  have ef : (fs.zip ls).map (·.1) = fs := List.map_fst_zip (by rw [h0.1, h1.1]; exact Nat.le_refl _)
  have el : (fs.zip ls).map (·.2) = ls := List.map_snd_zip (by rw [h0.1, h1.1]; exact Nat.le_refl _)
  have hr : ∀ q ∈ fs.zip ls, -9223372036854775808 ≤ q.1 ∧ q.2 ≤ 9223372036854775807 := fun q hq => by
    obtain ⟨h2, h3⟩ := List.of_mem_zip (show (q.1, q.2) ∈ fs.zip ls from hq)
    exact ⟨(hfr _ h2).1, (hlr _ h3).2⟩
  rw [← ef] at h0
  rw [← el] at h1
  generalize fs.zip ls = ps at h0 h1 hr
  by_cases e6 : k < n0 ∧ index < (ps.map (·.2)).getD (n0 - 1) 0
  · exact early_f a0 a1 n0 c0 c1 k ps w index most inClass h0 h1 (by omega) e6.1 e6.2
  have hle : k < n0 → (ps.map (·.2)).getD (n0 - 1) 0 ≤ index := fun hk => by
    by_cases e7 : index < (ps.map (·.2)).getD (n0 - 1) 0
    · exact absurd ⟨hk, e7⟩ e6
    · omega
  cases inClass with
  | false => exact law_out a0 a1 n0 c0 c1 k ps w index most h0 h1 (by omega) ha0 ha1 (by omega) hr hle
  | true =>
    by_cases e7 : most < 0
    · exact law_all a0 a1 n0 c0 c1 k ps w index most h0 h1 (by omega) ha0 ha1 (by omega) hr hle e7 (by simp; omega)
    by_cases e8 : 0 < most
    · by_cases e9 : index < -9223372036854775808 + most
      · exact early_g a0 a1 n0 c0 c1 k ps w index most h0 h1 (by omega) (by omega) hle e8 hms.2 e9
      · exact law_most1 a0 a1 n0 c0 c1 k ps w index most h0 h1 (by omega) ha0 ha1 (by omega) hr hle e8 (by omega) hms.2 (by omega) (by omega)
    · exact law_most0 a0 a1 n0 c0 c1 k ps w index most h0 h1 (by omega) ha0 ha1 (by omega) hr hle (by omega) (by simp; omega) hms.2 (by omega) (by omega)
end Go.Proofs.Qxb6602619a
