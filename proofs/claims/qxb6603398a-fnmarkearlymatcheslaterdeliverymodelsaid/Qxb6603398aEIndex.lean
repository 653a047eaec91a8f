/-
  THE WALK of indexInt32: is the number in the list?
-/
import Derived.Test.Qxb6603398aRows
import Derived.Test.Qxb6603398aMem
namespace Go.Proofs.Qxb6603398a
open Go.RowKit Mem
set_option linter.unusedVariables false

def IdxRet (zs : List Int) (v : Int) (w : World) (e : Ending) (w' : World) : Prop := ∃ r : Int, e = .returned (.int .i64 r) ∧ (0 ≤ r ↔ v ∈ zs) ∧ w = w'

theorem notin_of (zs : List Int) (v : Int) (n : Nat) (hn : zs.length = n) (h : ∀ j, j < n → zs.getD j 0 ≠ v) : v ∉ zs := by
  intro hv
  obtain ⟨j, hj, e⟩ := List.getElem_of_mem hv
  apply h j (by omega)
  simp [List.getD, hj, e]

set_option maxHeartbeats 4000000 in
theorem index_any (a : Option Addr) (n c : Nat) (v : Int) (zs : List Int) (w : World) (hr : Row .i32 w a n zs) (hn : n ≤ 1048576) :
    Calls Try.prog 15 #[.slice a n c, .int .i32 v] w (IdxRet zs v w) := by
  have HR := hid hr
  clear hr
  have i0 : (n : Int) ≤ 1048576 := by omega
  go_enter Try.func15, Try.ntmps15
  go_wp2
  go_loopw [5] (fun i wr => ∃ k : Nat, k ≤ n ∧ i = .int .i64 k ∧ Hid (wr = w) ∧ Hid (∀ j, j < k → zs.getD j 0 ≠ v)) (fun i _ => n - (intOf i).toNat)
  case atStart => exact ⟨0, Nat.zero_le _, rfl, hid rfl, hid (fun j hj => absurd hj (by omega))⟩
  case round =>
    obtain ⟨k, hk, rfl, hw, hall⟩ := hrel
    have hw' := hw.out
    subst hw'
    by_cases hlt : k < n
    · have hlt' : (k : Int) < (n : Int) := by omega
      obtain ⟨b, off, e, hb, hc⟩ := HR.out.2 (by omega)
      subst e
      obtain ⟨z, hz⟩ : ∃ z, Hid (zs.getD k 0 = z) := ⟨_, rfl⟩
      have cz := hc k hlt
      rw [hz.out] at cz
      clear hc
      by_cases he : z = v
      · subst he
        go_wp2
        go_ret
        refine ⟨_, rfl, ⟨fun _ => ?_, fun _ => by omega⟩, rfl⟩
        have hl := HR.out.1
        rw [← hz.out]
        simp [List.getD, show k < zs.length by omega]
      · have hd : (z == v) = false := by simp [he]
        go_wp2
        go_roundw
        case rel => exact ⟨k + 1, by omega, by go_num, hid (by trivial), hid (fun j hj => by
          by_cases e : j = k
          · subst e; rw [hz.out]; exact he
          · exact hall.out j (by omega))⟩
        case measure => simp [intOf]; omega
    · have ek : k = n := by omega
      subst ek
      go_wp2
      go_ret
      refine ⟨_, rfl, ⟨fun h => absurd h (by omega), fun h => absurd h (notin_of zs v k HR.out.1 hall.out)⟩, rfl⟩
end Go.Proofs.Qxb6603398a
