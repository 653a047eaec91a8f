/-
  THE WALK of zzBytes_FnMarkEarlyMatchesLaterDeliveryModel: a bound on the sum of the lengths.
-/
import Derived.Test.Qxb6603398aRows
import Derived.Test.Qxb6603398aMem
import Derived.Test.Qxb6603398aWalkBytes
namespace Go.Proofs.Qxb6603398a
open Go.RowKit Mem

set_option maxHeartbeats 4000000 in
theorem bytes_early (p : Int) (a1 a2 a3 a4 a5 a6 a7 a8 a9 a10 a11 : Option Addr) (n1 n2 n3 n4 n5 n6 n7 n8 n9 n10 n11 c1 c2 c3 c4 c5 c6 c7 c8 c9 c10 c11 : Nat) (w : World)
    (h1 : n1 ≤ maxLen) (h2 : n2 ≤ maxLen) (h3 : n3 ≤ maxLen) (h4 : n4 ≤ maxLen) (h5 : n5 ≤ maxLen) (h6 : n6 ≤ maxLen) (h7 : n7 ≤ maxLen) (h8 : n8 ≤ maxLen) (h9 : n9 ≤ maxLen) (h10 : n10 ≤ maxLen) (h11 : n11 ≤ maxLen) :
    Calls Try.prog 13 #[.int .i32 p, .slice a1 n1 c1, .slice a2 n2 c2, .slice a3 n3 c3, .slice a4 n4 c4, .slice a5 n5 c5, .slice a6 n6 c6, .slice a7 n7 c7, .slice a8 n8 c8, .slice a9 n9 c9, .slice a10 n10 c10, .slice a11 n11 c11] w
      (BytesRet (n1 + n2 + n3 + n4 + n5 + n6 + n7 + n8 + n9 + n10 + n11) w) := by
  unfold maxLen at h1 h2 h3 h4 h5 h6 h7 h8 h9 h10 h11
  go_enter Try.func13, Try.ntmps13
  go_wp2
  all_goals go_ret
  all_goals first | exact ⟨false, rfl, by simp, rfl⟩ | exact ⟨true, rfl, fun _ => by omega, rfl⟩
end Go.Proofs.Qxb6603398a
