import Derived.Test.Qxb6602619aRows
import Derived.Test.Qxb6602619aMem
import Derived.Test.Qxb6602619aPlain
import Derived.Lib.SliceRun
namespace Go.Proofs.Qxb6602619a
open Go.RowKit Mem Plain

/-- Some Bool comes back; nothing has turned. -/
def SomeBool (w : World) (e : Ending) (w' : World) : Prop := ∃ b, e = .returned (.bool b) ∧ w = w'

theorem bytes_any (a0 a1 : Option Addr) (n0 c0 n1 c1 : Nat) (x y z u : Value) (w : World) (h0 : n0 ≤ maxLen) (h1 : n1 ≤ maxLen) :
    Calls Try.prog 14 #[.slice a0 n0 c0, .slice a1 n1 c1, x, y, z, u] w (SomeBool w) := by
  unfold maxLen at h0 h1
  go_enter Try.func14, Try.ntmps14
  go_wp2
  all_goals (go_ret; exact ⟨_, rfl, rfl⟩)

def WFRet (fs ls : List Int) (h n : Nat) (w : World) (e : Ending) (w' : World) : Prop := ∃ b, e = .returned (.bool b) ∧ (b = true → WF fs ls h n) ∧ Below w.heap.size w w'

set_option maxHeartbeats 400000 in
theorem live_any (a0 a1 : Option Addr) (n c0 c1 h : Nat) (fs ls : List Int) (w : World) (h0 : Row .i64 w a0 n fs) (h1 : Row .i64 w a1 n ls) (hh : h ≤ n) (hn : n ≤ 65536) :
    Calls Try.prog 8 #[.slice a0 n c0, .slice a1 n c1, .int .i64 h] w (WFRet fs ls h n w) := by
  have H0 : Hid (Row .i64 w a0 n fs) := h0
  have H1 : Hid (Row .i64 w a1 n ls) := h1
  clear h0 h1
  go_enter Try.func8, Try.ntmps8
  go_wp2
  go_loopw [7] (fun i wr => ∃ k : Nat, h ≤ k ∧ k ≤ n ∧ Hid (WF fs ls h k) ∧ i = .int .i64 k ∧ Below w.heap.size w wr) (fun i _ => n - (intOf i).toNat)
  case atStart => exact ⟨h, Nat.le_refl _, hh, WF.start _ _ _, rfl, Below.refl _ _⟩
  case round =>
    obtain ⟨k, hk0, hk, hwf, rfl, hb⟩ := hrel
    by_cases hlt : k < n
    · obtain ⟨b0, o0, e0, hb0, hc0⟩ := H0.out.2 (by omega)
      obtain ⟨b1, o1, e1, hb1, hc1⟩ := H1.out.2 (by omega)
      subst e0 e1
      have c0k : wr.cell? ⟨b0, o0 + k, none⟩ = some (.int .i64 (fs.getD k 0)) := by rw [hb.cell (p := ⟨b0, o0 + k, none⟩) hb0]; exact hc0 k hlt
      have c1k : wr.cell? ⟨b1, o1 + k, none⟩ = some (.int .i64 (ls.getD k 0)) := by rw [hb.cell (p := ⟨b1, o1 + k, none⟩) hb1]; exact hc1 k hlt
      have c1p : wr.cell? ⟨b1, o1 + (k - 1), none⟩ = some (.int .i64 (ls.getD (k - 1) 0)) := by rw [hb.cell (p := ⟨b1, o1 + (k - 1), none⟩) hb1]; exact hc1 (k - 1) (by omega)
      clear hc0 hc1
      have hlt' : (k : Int) < (n : Int) := by omega
      go_wp2
      go_quiet (fail)
      go_wp2
      · go_ret
        exact ⟨false, rfl, by simp, below_drewN hb _⟩
      · go_ret
        exact ⟨false, rfl, by simp, below_drewN hb _⟩
      · go_roundw
        case rel => exact ⟨k + 1, by omega, by omega, WF.step hwf.out (by simpa using ‹fs[k]?.getD 0 ≤ ls[k]?.getD 0›) (fun _ => by simpa using ‹ls[k - 1]?.getD 0 < fs[k]?.getD 0›), by go_num, below_drewN hb _⟩
        case measure => simp [intOf]; omega
      · go_ret
        exact ⟨false, rfl, by simp, below_drewN hb _⟩
      · go_roundw
        case rel => exact ⟨k + 1, by omega, by omega, WF.step hwf.out (by simpa using ‹fs[k]?.getD 0 ≤ ls[k]?.getD 0›) (fun h => absurd h ‹_›), by go_num, below_drewN hb _⟩
        case measure => simp [intOf]; omega
    · have ek : k = n := by omega
      subst ek
      go_wp2
      go_ret
      exact ⟨true, rfl, fun _ => hwf.out, hb⟩

theorem Try.info3 : (Try.prog.info? 3).map (fun i => (i.zero, i.size, i.bytes)) = some (some (.int .i64 0), 1, 8) := by kernel_rfl
/-- n zeros. -/
def zeros (n : Nat) : List Value := List.replicate n (.int .i64 0)
theorem make22 (n m : Nat) (hm : m ≤ n) (hn : n ≤ 65536) (w : World) : (Instr.makeSlice 22 (.int .i64 (m : Int)) (.int .i64 (n : Int))).run Try.prog w =
    .ok (.slice (some ⟨w.heap.size, 0, none⟩) m n) (w.alloc (.cells (zeros n).toArray 3)) := by
  obtain ⟨i, hi, hz0, hz1, hz2⟩ := info_parts Try.info3
  have hr := run_make (P := Try.prog) w 22 3 i (.int .i64 0) Try.underlying22 hi hz0 .i64 .i64 (m : Int) (n : Int) (by omega) (by omega) (by rw [hz2]; omega) (by omega)
  rw [hr, hz1]
  simp only [Int.toNat_natCast, Nat.mul_one]
  rw [replicate_made _ rfl]
  rfl

/-- A new slice that reads as zs. -/
def CopyRet (n : Nat) (zs : List Int) (w : World) (e : Ending) (w' : World) : Prop := ∃ a, e = .returned (.slice a n n) ∧ Row .i64 w' a n zs ∧ Below w.heap.size w w'

theorem copy_nil (w : World) : Calls Try.prog 9 #[.slice none 0 0] w (CopyRet 0 [] w) := by
  have hnil := fun w a n c n' c' => Lib.run_eql_slice_nil (P := Try.prog) w 22 3 a n c n' c' Try.underlying22
  go_enter Try.func9, Try.ntmps9
  go_wp2
  go_ret
  exact ⟨none, rfl, Row.nil _ _ _, Below.refl _ _⟩

/-- The copy behind k rounds. -/
def part (n : Nat) (zs : List Int) (k : Nat) : List Value := ints .i64 (zs.take k) ++ zeros (n - k)
theorem part_zero (n : Nat) (zs : List Int) : part n zs 0 = zeros n := by simp [part, ints]
theorem part_full {n : Nat} {zs : List Int} (h : zs.length = n) : part n zs n = ints .i64 zs ++ [] := by
  simp [part, zeros, List.take_of_length_le (Nat.le_of_eq h)]
theorem part_set {n : Nat} {zs : List Int} {k : Nat} (h : zs.length = n) (hk : k < n) : (part n zs k).set k (.int .i64 (zs.getD k 0)) = part n zs (k + 1) := by
  have e1 : (ints .i64 (zs.take k)).length = k := by simp [ints]; omega
  have e2 : n - k = (n - (k + 1)) + 1 := by omega
  have e3 : zs.take (k + 1) = zs.take k ++ [zs.getD k 0] := by
    rw [List.take_succ_eq_append_getElem (by omega)]
    simp [List.getD, show k < zs.length by omega]
  unfold part
  rw [List.set_append_right _ _ (by omega), e1, Nat.sub_self, e2]
  simp only [zeros, List.replicate_succ, List.set_cons_zero, e3, ints, List.map_append, List.map_cons, List.map_nil, List.append_assoc, List.cons_append, List.nil_append]
theorem part_get {n : Nat} {zs : List Int} {k : Nat} (h : zs.length = n) (hk : k < n) : (part n zs k)[k]? = some (.int .i64 0) := by
  have e1 : (ints .i64 (zs.take k)).length = k := by simp [ints]; omega
  unfold part
  rw [List.getElem?_append_right (by omega), e1, Nat.sub_self]
  rw [zeros, List.getElem?_replicate, if_pos (by omega)]

theorem copy_any (x : Addr) (n c : Nat) (zs : List Int) (w : World) (h0 : Row .i64 w (some x) n zs) (hn : n ≤ 65536) :
    Calls Try.prog 9 #[.slice (some x) n c] w (CopyRet n zs w) := by
  have H0 : Hid (Row .i64 w (some x) n zs) := h0
  clear h0
  have hnil := fun w a n c n' c' => Lib.run_eql_slice_nil (P := Try.prog) w 22 3 a n c n' c' Try.underlying22
  have hmk := make22 n n (Nat.le_refl _) hn
  go_enter Try.func9, Try.ntmps9
  go_wp2
  clear hmk hnil
  go_loopw [4] (fun i wr => ∃ k : Nat, k ≤ n ∧ i = .int .i64 k ∧ Hid (Blk wr w.heap.size (part n zs k) 3) ∧ Below w.heap.size w wr) (fun i _ => n - (intOf i).toNat)
  case atStart => exact ⟨0, Nat.zero_le _, rfl, by rw [part_zero]; exact Blk.new _ _ _, (Below.refl _ _).alloc (Nat.le_refl _) _⟩
  case round =>
    obtain ⟨k, hk, rfl, hblk, hb⟩ := hrel
    by_cases hlt : k < n
    · obtain ⟨b0, o0, e0, hb0, hc0⟩ := H0.out.2 (by omega)
      obtain rfl := Option.some.inj e0
      have c0k : wr.cell? ⟨b0, o0 + k, none⟩ = some (.int .i64 (zs.getD k 0)) := by rw [hb.cell (p := ⟨b0, o0 + k, none⟩) hb0]; exact hc0 k hlt
      have c1k : wr.cell? ⟨w.heap.size, k, none⟩ = some (.int .i64 0) := by rw [hblk.out.cell]; exact part_get H0.out.1 hlt
      have f1k := hblk.out.frozen k
      clear hc0
      have hlt' : (k : Int) < (n : Int) := by omega
      go_wp2
      go_roundw
      case rel => exact ⟨k + 1, by omega, by go_num, hid (by have := hblk.out.set k (.int .i64 (zs.getD k 0)); rw [part_set H0.out.1 hlt] at this; simpa using this), hb.setCell (Nat.le_refl _) _⟩
      case measure => simp [intOf]; omega
    · have ek : k = n := by omega
      subst ek
      have HR : Hid (Row .i64 wr (some ⟨w.heap.size, 0, none⟩) k zs) := by
        have h1 := hblk.out
        rw [part_full H0.out.1] at h1
        have h2 := Row.ofBlk h1
        rw [H0.out.1] at h2
        exact h2
      go_wp2
      go_ret
      exact ⟨_, rfl, HR.out, hb⟩

/-- true comes back; nothing old has turned. -/
def TrueRet (w : World) (e : Ending) (w' : World) : Prop := e = .returned (.bool true) ∧ Below w.heap.size w w'

theorem same_any (a0 a1 : Option Addr) (n c0 c1 : Nat) (zs : List Int) (w : World) (h0 : Row .i64 w a0 n zs) (h1 : Row .i64 w a1 n zs) (hn : n ≤ 65536) :
    Calls Try.prog 12 #[.slice a0 n c0, .slice a1 n c1] w (TrueRet w) := by
  have H0 : Hid (Row .i64 w a0 n zs) := h0
  have H1 : Hid (Row .i64 w a1 n zs) := h1
  clear h0 h1
  go_enter Try.func12, Try.ntmps12
  go_wp2
  go_loopw [5] (fun i wr => ∃ k : Nat, k ≤ n ∧ i = .int .i64 k ∧ Below w.heap.size w wr) (fun i _ => n - (intOf i).toNat)
  case atStart => exact ⟨0, Nat.zero_le _, rfl, Below.refl _ _⟩
  case round =>
    obtain ⟨k, hk, rfl, hb⟩ := hrel
    by_cases hlt : k < n
    · obtain ⟨b0, o0, e0, hb0, hc0⟩ := H0.out.2 (by omega)
      obtain ⟨b1, o1, e1, hb1, hc1⟩ := H1.out.2 (by omega)
      subst e0 e1
      have c0k : wr.cell? ⟨b0, o0 + k, none⟩ = some (.int .i64 (zs.getD k 0)) := by rw [hb.cell (p := ⟨b0, o0 + k, none⟩) hb0]; exact hc0 k hlt
      have c1k : wr.cell? ⟨b1, o1 + k, none⟩ = some (.int .i64 (zs.getD k 0)) := by rw [hb.cell (p := ⟨b1, o1 + k, none⟩) hb1]; exact hc1 k hlt
      clear hc0 hc1
      have hlt' : (k : Int) < (n : Int) := by omega
      go_wp2
      go_quiet (fail)
      go_wp2
      go_roundw
      case rel => exact ⟨k + 1, by omega, by go_num, below_drewN hb _⟩
      case measure => simp [intOf]; omega
    · go_wp2
      go_ret
      exact ⟨rfl, hb⟩
end Go.Proofs.Qxb6602619a
