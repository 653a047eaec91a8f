/-
  THE LAW's OWN WALK (FnMarkEarlyMatchesLaterDeliveryModel), the number p out of the bounds that the law asks for.
-/
import Derived.Test.Qxb6603398aRows
import Derived.Test.Qxb6603398aEBytes
import Derived.Test.Qxb6603398aECopies

namespace Go.Proofs.Qxb6603398a
open Go.RowKit Mem E
set_option linter.unusedVariables false

set_option maxRecDepth 20000 in
set_option maxHeartbeats 4000000 in
theorem law_out (p : Int) (h : p < 0 ∨ 65536 < p) (a1 a2 a3 a4 a5 a6 a7 a8 a9 a10 a11 : Option Addr) (n1 n2 n3 n4 n5 n6 n7 n8 n9 n10 n11 c1 c2 c3 c4 c5 c6 c7 c8 c9 c10 c11 : Nat) (w : World) (q1 : n1 ≤ maxLen) (q2 : n2 ≤ maxLen) (q3 : n3 ≤ maxLen) (q4 : n4 ≤ maxLen) (q5 : n5 ≤ maxLen) (q6 : n6 ≤ maxLen) (q7 : n7 ≤ maxLen) (q8 : n8 ≤ maxLen) (q9 : n9 ≤ maxLen) (q10 : n10 ≤ maxLen) (q11 : n11 ≤ maxLen) :
    Calls Try.prog 5 #[.int .i32 p, .slice a1 n1 c1, .slice a2 n2 c2, .slice a3 n3 c3, .slice a4 n4 c4, .slice a5 n5 c5, .slice a6 n6 c6, .slice a7 n7 c7, .slice a8 n8 c8, .slice a9 n9 c9, .slice a10 n10 c10, .slice a11 n11 c11] w (TrueRet w) := by
  go_enter Try.func5, Try.ntmps5
  go_wp2_with fail
  refine (bytes_early p a1 a2 a3 a4 a5 a6 a7 a8 a9 a10 a11 n1 n2 n3 n4 n5 n6 n7 n8 n9 n10 n11 c1 c2 c3 c4 c5 c6 c7 c8 c9 c10 c11 _ q1 q2 q3 q4 q5 q6 q7 q8 q9 q10 q11).mono ?_
  rintro e w' ⟨b, rfl, hsum, rfl⟩
  clear hsum q1 q2 q3 q4 q5 q6 q7 q8 q9 q10 q11
  cases b
  · go_wp2
    go_ret
    exact ⟨rfl, Below.refl _ _⟩
  by_cases h0 : p < 0
  · have d0 : decide (p < 0) = true := decide_eq_true h0
    clear h
    go_wp2
    go_ret
    exact ⟨rfl, Below.refl _ _⟩
  · have h1 : 65536 < p := by omega
    have d0 : decide (p < 0) = false := decide_eq_false h0
    have d1 : decide (65536 < p) = true := decide_eq_true h1
    clear h
    go_wp2
    go_ret
    exact ⟨rfl, Below.refl _ _⟩
end Go.Proofs.Qxb6603398a
