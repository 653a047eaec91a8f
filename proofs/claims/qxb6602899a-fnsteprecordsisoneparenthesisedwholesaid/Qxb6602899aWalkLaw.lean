/-
  THE WALK of the law itself, and of stepRecords under it.
-/
import Derived.Test.Qxb6602899aWalks
import Derived.RowKit3
namespace Go.Proofs.Qxb6602899a.fnStepRecordsIsOneParenthesisedWhole
open Go.RowKit Plain

def RecRet (s : ByteArray) (w : World) (e : Ending) (w' : World) : Prop := ∃ p : ByteArray, e = .returned (.string (p ++ s ++ ⟨#[41]⟩)) ∧ preOK p.data.toList = true ∧ w = w'
set_option maxRecDepth 100000 in
set_option maxHeartbeats 1000000 in
theorem records_any (s : ByteArray) (w : World) (hs : s.size ≤ 1048576) :
    Calls Try.prog 17 #[.string s] w (RecRet s w) := by
  go_enter Try.func17, Try.ntmps17
  go_wp2
  go_ret
  exact ⟨_, rfl, by kernel_rfl, rfl⟩

theorem zrecords_any (s : ByteArray) (w : World) (hs : s.size ≤ 1048576) :
    Calls Try.prog 12 #[.string s] w (RecRet s w) := by
  go_enter Try.func12, Try.ntmps12
  go_wp2_with fail
  refine (records_any s _ hs).mono ?_
  rintro e w' ⟨p, rfl, hp, rfl⟩
  have HP : Hid (preOK p.data.toList = true) := hp
  clear hp
  go_wp2
  go_ret
  exact ⟨p, rfl, HP.out, rfl⟩

/-- What the law's loop wants of the query. -/
structure Query (q : ByteArray) : Prop where
  lo : 2 ≤ q.size
  hi : q.size ≤ 1052673
  head : (h : 0 < q.size) → (q[0].toNat : Int) = 40
  last : (h : q.size - 1 < q.size) → (q[q.size - 1].toNat : Int) = 41
  ends : dep q.data.toList = 0
  up : ∀ j, 1 ≤ j → j < q.size → 0 < dep (q.data.toList.take j)

theorem query_of (p s : ByteArray) (hs : s.size ≤ 1048576) (hp : preOK p.data.toList = true) (hb : Bal s.data.toList) : Query (p ++ s ++ ⟨#[41]⟩) := by
  have e : (p ++ s ++ ⟨#[41]⟩ : ByteArray).data.toList = p.data.toList ++ s.data.toList ++ [41] := by simp
  obtain ⟨h1, h2, h3, h4, h5, h6⟩ := whole _ _ hp hb
  have hsz : (p ++ s ++ ⟨#[41]⟩ : ByteArray).size = p.data.toList.length + s.data.toList.length + 1 := by
    rw [← h1, ← e]; exact Array.length_toList.symm
  have hs' : s.data.toList.length = s.size := by simp
  refine ⟨by omega, by omega, fun h => ?_, fun h => ?_, by rw [e]; exact h5, fun j hj hjl => ?_⟩
  · have : (p ++ s ++ ⟨#[41]⟩ : ByteArray).data.toList[0]? = some 40 := by rw [e]; exact h4
    have h' : (p ++ s ++ ⟨#[41]⟩ : ByteArray)[0] = 40 := by
      rw [List.getElem?_eq_some_iff] at this
      obtain ⟨_, e2⟩ := this
      exact e2
    rw [h']; rfl
  · have : (p ++ s ++ ⟨#[41]⟩ : ByteArray).data.toList[(p ++ s ++ ⟨#[41]⟩ : ByteArray).size - 1]? = some 41 := by
      rw [e, hsz, List.getElem?_append_right (by simp)]
      simp
    have h' : (p ++ s ++ ⟨#[41]⟩ : ByteArray)[(p ++ s ++ ⟨#[41]⟩ : ByteArray).size - 1] = 41 := by
      rw [List.getElem?_eq_some_iff] at this
      obtain ⟨_, e2⟩ := this
      exact e2
    rw [h']; rfl
  · rw [e]; exact h6 j hj (by rw [h1]; omega)

theorem walk (a0 : ByteArray) (w0 : a0.size ≤ maxLen) (w : World) :
    Calls Try.prog 6 #[.string a0] w fun e w' => e = .returned (.bool true) ∧ Grown w w' := by
  have w0' := w0
  unfold maxLen at w0'
  by_cases hbig : a0.size ≤ 1048576
  · go_enter Try.func6, Try.ntmps6
    go_wp2_with fail
    refine (bytes_any a0 _ w0).mono ?_
    rintro e w' ⟨b, rfl, rfl⟩
    cases b
    · go_wp2
      go_ret
      exact ⟨rfl, Grown.refl _⟩
    go_wp2_with fail
    refine (balanced_any a0 _ w0).mono ?_
    rintro e w' ⟨b, rfl, hbal0, rfl⟩
    have hbal : Hid (b = true → Bal a0.data.toList) := hbal0
    clear hbal0
    cases b
    · go_wp2
      go_ret
      exact ⟨rfl, Grown.refl _⟩
    go_wp2_with fail
    refine (zrecords_any a0 _ hbig).mono ?_
    rintro e w' ⟨p, rfl, hp, rfl⟩
    have hq := query_of p a0 hbig hp (hbal.out (by simp))
    generalize p ++ a0 ++ ⟨#[41]⟩ = q at hq ⊢
    clear hp hbal p
    obtain ⟨q1, q2, q3, q4, q5, q6⟩ := hq
    have qe := q3 (by omega)
    have qf := q4 (by omega)
    clear q3 q4
    have q5' : Hid (dep q.data.toList = 0) := q5
    have q6' : Hid (∀ j, 1 ≤ j → j < q.size → 0 < dep (q.data.toList.take j)) := q6
    clear q5 q6
    go_wp2
    go_loop [5, 6] (fun n i => ∃ k : Nat, k ≤ q.size ∧ i = .int .i64 k ∧ n = .int .i64 (dep (q.data.toList.take k))) (fun _ i => q.size - (intOf i).toNat)
    case atStart => exact ⟨0, Nat.zero_le _, rfl, rfl⟩
    case round =>
      obtain ⟨k, hk, rfl, rfl⟩ := hrel
      have hd := dep_take_le q k
      by_cases hlt : k < q.size
      · have HS : Hid (dep (q.data.toList.take (k + 1)) = dep (q.data.toList.take k) + val q[k]) := toList_take q k hlt
        have hup : k + 1 < q.size → 0 < dep (q.data.toList.take k) + val q[k] := fun h => by rw [← HS.out]; exact q6'.out (k + 1) (by omega) h
        by_cases hl : k + 1 < q.size
        · have hup' := hup hl
          clear hup
          by_cases h40 : (q[k].toNat : Int) = 40
          · have HV : Hid (val q[k] = 1) := val_open q k hlt h40
            rw [HV.out] at hup'
            go_wp2
            go_round
            case rel => exact ⟨k + 1, by omega, by go_num, by rw [HS.out, HV.out]⟩
            case measure => simp [intOf]; omega
          · by_cases h41 : (q[k].toNat : Int) = 41
            · have HV : Hid (val q[k] = -1) := val_shut q k hlt h41
              rw [HV.out] at hup'
              go_wp2
              go_round
              case rel => exact ⟨k + 1, by omega, by go_num, by rw [HS.out, HV.out]; go_num⟩
              case measure => simp [intOf]; omega
            · have HV : Hid (val q[k] = 0) := val_none q k hlt h40 h41
              rw [HV.out] at hup'
              go_wp2
              go_round
              case rel => exact ⟨k + 1, by omega, by go_num, by rw [HS.out, HV.out]; go_num⟩
              case measure => simp [intOf]; omega
        · clear hup
          have hkl : k = q.size - 1 := by omega
          have h41 : (q[k].toNat : Int) = 41 := by subst hkl; exact qf
          have HV : Hid (val q[k] = -1) := val_shut q k hlt h41
          have HE : Hid (dep (q.data.toList.take (k + 1)) = 0) := by
            show _ = _
            rw [List.take_of_length_le (by simp; omega)]; exact q5'.out
          have hone : dep (q.data.toList.take k) = 1 := by have h1 := HS.out; have h2 := HV.out; have h3 := HE.out; omega
          have HO : Hid (dep (q.data.toList.take k) = 1) := hone
          clear hone hkl
          have hlo : 0 < dep (q.data.toList.take k) := by have h1 := HO.out; omega
          have hhi : dep (q.data.toList.take k) < 2 := by have h1 := HO.out; omega
          go_wp2
          go_round
          case rel => exact ⟨k + 1, by omega, by go_num, by rw [HE.out, HO.out]; go_num⟩
          case measure => simp [intOf]; omega
      · have hks : k = q.size := by omega
        subst hks
        have e0 : dep (q.data.toList.take q.size) = 0 := by rw [List.take_of_length_le (by simp)]; exact q5'.out
        go_wp2
        go_ret
        exact ⟨by simp, Grown.refl _⟩
  · go_enter Try.func6, Try.ntmps6
    go_wp2_with fail
    refine (bytes_any a0 _ w0).mono ?_
    rintro e w' ⟨b, rfl, rfl⟩
    cases b
    · go_wp2
      go_ret
      exact ⟨rfl, Grown.refl _⟩
    · go_wp2
      go_ret
      exact ⟨rfl, Grown.refl _⟩
end Go.Proofs.Qxb6602899a.fnStepRecordsIsOneParenthesisedWhole
