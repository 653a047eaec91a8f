/-
  THE WALKS of zzBytes and zzBalanced.
-/
import Derived.Test.Qxb6602899aRows
import Derived.Test.Qxb6602899aPlain
import Derived.WalkKit
import Derived.WalkSpells
namespace Go.Proofs.Qxb6602899a.fnStepRecordsIsOneParenthesisedWhole
open Go.RowKit Plain

/-- zzBytes: a bound on the length. -/
def SomeBool (w : World) (e : Ending) (w' : World) : Prop := ∃ b, e = .returned (.bool b) ∧ w = w'
theorem bytes_any (s : ByteArray) (w : World) (hs : s.size ≤ maxLen) :
    Calls Try.prog 10 #[.string s] w (SomeBool w) := by
  unfold maxLen at hs
  go_enter Try.func10, Try.ntmps10
  go_wp2
  all_goals (go_ret; exact ⟨_, rfl, rfl⟩)

theorem toList_take (s : ByteArray) (k : Nat) (h : k < s.size) : dep (s.data.toList.take (k + 1)) = dep (s.data.toList.take k) + val s[k] :=
  dep_snoc s.data.toList k (by simpa using h)

theorem dep_take_le (s : ByteArray) (k : Nat) : -(k : Int) ≤ dep (s.data.toList.take k) ∧ dep (s.data.toList.take k) ≤ k := by
  have := dep_le (s.data.toList.take k)
  have hl : (s.data.toList.take k).length ≤ k := List.length_take_le _ _
  omega

theorem val_open (s : ByteArray) (k : Nat) (h : k < s.size) (e : (s[k].toNat : Int) = 40) : val s[k] = 1 := by
  unfold val; rw [if_pos (by omega)]
theorem val_shut (s : ByteArray) (k : Nat) (h : k < s.size) (e : (s[k].toNat : Int) = 41) : val s[k] = -1 := by
  unfold val; rw [if_neg (by omega), if_pos (by omega)]
theorem val_none (s : ByteArray) (k : Nat) (h : k < s.size) (e : (s[k].toNat : Int) ≠ 40) (e' : (s[k].toNat : Int) ≠ 41) : val s[k] = 0 := by
  unfold val; rw [if_neg (by omega), if_neg (by omega)]

/-- What the balance loop knows at its k-th round. -/
def Up (s : ByteArray) (k : Nat) : Prop := ∀ j, j ≤ k → 0 ≤ dep (s.data.toList.take j)
theorem Up.succ {s : ByteArray} {k : Nat} (h : Up s k) (h' : 0 ≤ dep (s.data.toList.take (k + 1))) : Up s (k + 1) := by
  intro j hj
  by_cases e : j = k + 1
  · rw [e]; exact h'
  · exact h j (by omega)
theorem Up.bal {s : ByteArray} (h : Up s s.size) (h' : dep s.data.toList = 0) : Bal s.data.toList := by
  refine ⟨h', fun j => ?_⟩
  by_cases e : j ≤ s.size
  · exact h j e
  · rw [List.take_of_length_le (by simp; omega), h']; decide

def BalRet (s : ByteArray) (w : World) (e : Ending) (w' : World) : Prop := ∃ b, e = .returned (.bool b) ∧ (b = true → Bal s.data.toList) ∧ w = w'
set_option maxHeartbeats 400000 in
theorem balanced_any (s : ByteArray) (w : World) (hs : s.size ≤ maxLen) :
    Calls Try.prog 11 #[.string s] w (BalRet s w) := by
  unfold maxLen at hs
  go_enter Try.func11, Try.ntmps11
  go_wp2
  go_loop [3, 4] (fun n i => ∃ k : Nat, k ≤ s.size ∧ Hid (Up s k) ∧ i = .int .i64 k ∧ n = .int .i64 (dep (s.data.toList.take k))) (fun _ i => s.size - (intOf i).toNat)
  case atStart => exact ⟨0, Nat.zero_le _, (fun j hj => by rw [show j = 0 by omega]; exact Int.le_refl 0 : Up s 0), rfl, rfl⟩
  case round =>
    obtain ⟨k, hk, hup, rfl, rfl⟩ := hrel
    have hd := dep_take_le s k
    by_cases hlt : k < s.size
    · have HS : Hid (dep (s.data.toList.take (k + 1)) = dep (s.data.toList.take k) + val s[k]) := toList_take s k hlt
      have h0 : 0 ≤ dep (s.data.toList.take k) := hup.out k (Nat.le_refl _)
      by_cases h40 : (s[k].toNat : Int) = 40
      · have HV : Hid (val s[k] = 1) := val_open s k hlt h40
        go_wp2
        go_round
        case rel => exact ⟨k + 1, by omega, Up.succ hup.out (by rw [HS.out, HV.out]; omega), by go_num, by rw [HS.out, HV.out]⟩
        case measure => simp [intOf]; omega
      · by_cases h41 : (s[k].toNat : Int) = 41
        · have HV : Hid (val s[k] = -1) := val_shut s k hlt h41
          by_cases hneg : dep (s.data.toList.take k) - 1 < 0
          · go_wp2
            go_ret
            exact ⟨false, rfl, by simp, rfl⟩
          · go_wp2
            go_round
            case rel => exact ⟨k + 1, by omega, Up.succ hup.out (by rw [HS.out, HV.out]; omega), by go_num, by rw [HS.out, HV.out]; go_num⟩
            case measure => simp [intOf]; omega
        · have HV : Hid (val s[k] = 0) := val_none s k hlt h40 h41
          go_wp2
          go_round
          case rel => exact ⟨k + 1, by omega, Up.succ hup.out (by rw [HS.out, HV.out]; omega), by go_num, by rw [HS.out, HV.out]; go_num⟩
          case measure => simp [intOf]; omega
    · have hks : k = s.size := by omega
      subst hks
      go_wp2
      go_ret
      exact ⟨_, rfl, fun h => Up.bal hup.out (by simpa [List.take_of_length_le] using h), rfl⟩
end Go.Proofs.Qxb6602899a.fnStepRecordsIsOneParenthesisedWhole
