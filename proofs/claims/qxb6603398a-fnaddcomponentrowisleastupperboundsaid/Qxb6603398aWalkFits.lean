/-
  THE WALK of fitsAddComponent: it answers true only where the lists fit.
-/
import Derived.Test.Qxb6603398aRows
import Derived.Test.Qxb6603398aMem
import Derived.Test.Qxb6603398aPlain
namespace Go.Proofs.Qxb6603398a
open Go.RowKit Mem Plain
set_option linter.unusedVariables false

theorem Try.info4 : (Try.prog.info? 4).map (fun i => (i.zero, i.size, i.bytes)) = some (some (.bool false), 1, 1) := by kernel_rfl
/-- n times false. -/
def falses (n : Nat) : List Value := List.replicate n (.bool false)
theorem make32 (n : Nat) (hn : n ≤ 1048576) (w : World) : (Instr.makeSlice 32 (.int .i64 (n : Int)) (.int .i64 (n : Int))).run Try.prog w =
    .ok (.slice (some ⟨w.heap.size, 0, none⟩) n n) (w.alloc (.cells (falses n).toArray 4)) := by
  obtain ⟨i, hi, hz0, hz1, hz2⟩ := info_parts Try.info4
  have hr := run_make (P := Try.prog) w 32 4 i (.bool false) Try.underlying32 hi hz0 .i64 .i64 (n : Int) (n : Int) (by omega) (by omega) (by rw [hz2]; omega) (by omega)
  rw [hr, hz1]
  simp only [Int.toNat_natCast, Nat.mul_one]
  rw [replicate_made _ rfl]
  rfl

/-- Which of the first n numbers stand in ms. -/
def memB (ms : List Int) (n : Nat) : List Value := (List.range n).map fun (j : Nat) => .bool (decide ((j : Int) ∈ ms))
theorem memB_nil (n : Nat) : memB [] n = falses n := by
  apply List.ext_getElem?
  intro j
  by_cases h : j < n <;> simp [memB, falses, h]
theorem memB_get (ms : List Int) (n j : Nat) (h : j < n) : (memB ms n)[j]? = some (.bool (decide ((j : Int) ∈ ms))) := by simp [memB, h]
theorem memB_set (ms : List Int) (n m : Nat) (h : m < n) : (memB ms n).set m (.bool true) = memB (ms ++ [(m : Int)]) n := by
  apply List.ext_getElem?
  intro j
  by_cases hj : j < n
  · by_cases e : m = j
    · subst e
      simp [memB, h]
    · have e' : ¬ (j : Int) = (m : Int) := by omega
      simp [memB, hj, e, e']
  · simp [memB, hj]
theorem take_mem_succ (ms : List Int) (i : Nat) (h : i < ms.length) : ms.take (i + 1) = ms.take i ++ [ms.getD i 0] := by
  rw [List.take_succ_eq_append_getElem h]
  simp [List.getD, h]

def FitRet (L : Lists) (w : World) (e : Ending) (w' : World) : Prop := ∃ b, e = .returned (.bool b) ∧ (b = true → ∃ wd sc m0, Fit L wd sc m0) ∧ Below w.heap.size w w'

set_option maxRecDepth 20000 in
set_option maxHeartbeats 8000000 in
theorem fits_any (L : Lists) (hL : In L) (a0 a1 a2 a3 a4 a5 a6 a7 a8 a9 a10 : Option Addr) (n0 n1 n2 n3 n4 n5 n6 n7 n8 n9 n10 c0 c1 c2 c3 c4 c5 c6 c7 c8 c9 c10 : Nat) (w : World) (r0 : Row .i32 w a0 n0 L.scope) (r1 : Row .i32 w a1 n1 L.stream) (r2 : Row .i32 w a2 n2 L.seq) (r3 : Row .i32 w a3 n3 L.width) (r4 : Row .i32 w a4 n4 L.slot) (r5 : Row .i64 w a5 n5 L.row) (r6 : Row .i32 w a6 n6 L.rows) (r7 : Row .i32 w a7 n7 L.members) (r8 : Row .i32 w a8 n8 L.preds) (r9 : Row .i32 w a9 n9 L.froms) (r10 : Row .i32 w a10 n10 L.tos) (hs : n0 + n1 + n2 + n3 + n4 + n5 + n6 + n7 + n8 + n9 + n10 ≤ 1048576) :
    Calls Try.prog 11 #[.slice a0 n0 c0, .slice a1 n1 c1, .slice a2 n2 c2, .slice a3 n3 c3, .slice a4 n4 c4, .slice a5 n5 c5, .slice a6 n6 c6, .slice a7 n7 c7, .slice a8 n8 c8, .slice a9 n9 c9, .slice a10 n10 c10] w (FitRet L w) := by
  have R0 := hid r0
  have R1 := hid r1
  have R2 := hid r2
  have R3 := hid r3
  have R4 := hid r4
  have R5 := hid r5
  have R6 := hid r6
  have R7 := hid r7
  have R8 := hid r8
  have R9 := hid r9
  have R10 := hid r10
  clear r0 r1 r2 r3 r4 r5 r6 r7 r8 r9 r10
  have HB0 : Hid (L.scope.length = n0 ∧ L.stream.length = n1 ∧ L.seq.length = n2 ∧ L.width.length = n3 ∧ L.slot.length = n4 ∧ L.row.length = n5 ∧ L.rows.length = n6 ∧ L.members.length = n7 ∧ L.preds.length = n8 ∧ L.froms.length = n9 ∧ L.tos.length = n10) := hid ⟨R0.out.1, R1.out.1, R2.out.1, R3.out.1, R4.out.1, R5.out.1, R6.out.1, R7.out.1, R8.out.1, R9.out.1, R10.out.1⟩
  have i0 : (n0 : Int) ≤ 1048576 := by omega
  have i1 : (n1 : Int) ≤ 1048576 := by omega
  have i2 : (n2 : Int) ≤ 1048576 := by omega
  have i3 : (n3 : Int) ≤ 1048576 := by omega
  have i4 : (n4 : Int) ≤ 1048576 := by omega
  have i5 : (n5 : Int) ≤ 1048576 := by omega
  have i6 : (n6 : Int) ≤ 1048576 := by omega
  have i7 : (n7 : Int) ≤ 1048576 := by omega
  have i8 : (n8 : Int) ≤ 1048576 := by omega
  have i9 : (n9 : Int) ≤ 1048576 := by omega
  have i10 : (n10 : Int) ≤ 1048576 := by omega
  have d0 : decide ((1048576 : Int) < (n0 : Int)) = false := by simp; omega
  have d1 : decide ((1048576 : Int) < (n1 : Int)) = false := by simp; omega
  have d2 : decide ((1048576 : Int) < (n2 : Int)) = false := by simp; omega
  have d3 : decide ((1048576 : Int) < (n3 : Int)) = false := by simp; omega
  have d4 : decide ((1048576 : Int) < (n4 : Int)) = false := by simp; omega
  have d5 : decide ((1048576 : Int) < (n5 : Int)) = false := by simp; omega
  have d6 : decide ((1048576 : Int) < (n6 : Int)) = false := by simp; omega
  have d7 : decide ((1048576 : Int) < (n7 : Int)) = false := by simp; omega
  have d8 : decide ((1048576 : Int) < (n8 : Int)) = false := by simp; omega
  have d9 : decide ((1048576 : Int) < (n9 : Int)) = false := by simp; omega
  have d10 : decide ((1048576 : Int) < (n10 : Int)) = false := by simp; omega
  by_cases hx1 : 1048576 < 4 * (n0 + n1 + n2 + n3 + n4 + n6 + n7 + n8 + n9 + n10) + 8 * n5
  · go_enter Try.func11, Try.ntmps11
    go_wp2
    go_ret
    exact ⟨false, rfl, by simp, Below.refl _ _⟩
  by_cases hx2 : n7 = 0
  · go_enter Try.func11, Try.ntmps11
    go_wp2
    go_ret
    exact ⟨false, rfl, by simp, Below.refl _ _⟩
  have k7 : ((n7 : Int) == 0) = false := by simp; omega
  by_cases hx3 : n9 ≠ n10
  · have k9 : ((n9 : Int) != (n10 : Int)) = true := by simp; omega
    go_enter Try.func11, Try.ntmps11
    go_wp2
    go_ret
    exact ⟨false, rfl, by simp, Below.refl _ _⟩
  have k9 : ((n9 : Int) != (n10 : Int)) = false := by simp; omega
  obtain ⟨b7, o7, e7, hb7, hc7⟩ := R7.out.2 (by omega)
  subst e7
  obtain ⟨z0, hz0⟩ : ∃ z, Hid (L.members.getD 0 0 = z) := ⟨_, rfl⟩
  have lo_z0 : -2147483648 ≤ z0 := by rw [← hz0.out]; exact (hL.members 0).1
  have hi_z0 : z0 ≤ 2147483647 := by rw [← hz0.out]; exact (hL.members 0).2
  have cz0 := hc7 0 (by omega)
  rw [hz0.out, Nat.add_zero] at cz0
  have H7 := hid hc7
  clear hc7
  by_cases hx4 : z0 < 0
  · go_enter Try.func11, Try.ntmps11
    go_wp2
    go_ret
    exact ⟨false, rfl, by simp, Below.refl _ _⟩
  have d_hx4 : decide (z0 < 0) = false := by simp; omega
  by_cases hx5 : (n0 : Int) ≤ z0
  · go_enter Try.func11, Try.ntmps11
    go_wp2
    go_ret
    exact ⟨false, rfl, by simp, Below.refl _ _⟩
  have d_hx5 : decide ((n0 : Int) ≤ z0) = false := by simp; omega
  obtain ⟨m0, rfl⟩ := Int.eq_ofNat_of_zero_le (by omega : 0 ≤ z0)
  obtain ⟨b0, o0, e0, hb0, hc0⟩ := R0.out.2 (by omega)
  subst e0
  obtain ⟨y0, hy0⟩ : ∃ z, Hid (L.scope.getD m0 0 = z) := ⟨_, rfl⟩
  have lo_y0 : -2147483648 ≤ y0 := by rw [← hy0.out]; exact (hL.scope m0).1
  have hi_y0 : y0 ≤ 2147483647 := by rw [← hy0.out]; exact (hL.scope m0).2
  have cy0 := hc0 m0 (by omega)
  rw [hy0.out] at cy0
  have H0 := hid hc0
  clear hc0
  by_cases hx6 : y0 < 0
  · go_enter Try.func11, Try.ntmps11
    go_wp2
    go_ret
    exact ⟨false, rfl, by simp, Below.refl _ _⟩
  have d_hx6 : decide (y0 < 0) = false := by simp; omega
  by_cases hx7 : (n3 : Int) ≤ y0
  · go_enter Try.func11, Try.ntmps11
    go_wp2
    go_ret
    exact ⟨false, rfl, by simp, Below.refl _ _⟩
  have d_hx7 : decide ((n3 : Int) ≤ y0) = false := by simp; omega
  obtain ⟨sc, rfl⟩ := Int.eq_ofNat_of_zero_le (by omega : 0 ≤ y0)
  obtain ⟨b3, o3, e3, hb3, hc3⟩ := R3.out.2 (by omega)
  subst e3
  obtain ⟨x0, hx0⟩ : ∃ z, Hid (L.width.getD sc 0 = z) := ⟨_, rfl⟩
  have lo_x0 : -2147483648 ≤ x0 := by rw [← hx0.out]; exact (hL.width sc).1
  have hi_x0 : x0 ≤ 2147483647 := by rw [← hx0.out]; exact (hL.width sc).2
  have cx0 := hc3 sc (by omega)
  rw [hx0.out] at cx0
  clear hc3
  by_cases hx8 : x0 < 0
  · go_enter Try.func11, Try.ntmps11
    go_wp2
    go_ret
    exact ⟨false, rfl, by simp, Below.refl _ _⟩
  have d_hx8 : decide (x0 < 0) = false := by simp; omega
  by_cases hx9 : 65536 < x0
  · go_enter Try.func11, Try.ntmps11
    go_wp2
    go_ret
    exact ⟨false, rfl, by simp, Below.refl _ _⟩
  have d_hx9 : decide (65536 < x0) = false := by simp; omega
  obtain ⟨wd, rfl⟩ := Int.eq_ofNat_of_zero_le (by omega : 0 ≤ x0)
  have hmk := make32 n5 (by omega)
  go_enter Try.func11, Try.ntmps11
  go_wp2
  clear hmk cz0 cy0 cx0
  go_loopw [28] (fun i wr => ∃ k : Nat, k ≤ n7 ∧ i = .int .i64 k ∧ Hid (Blk wr w.heap.size (memB (L.members.take k) n5) 4) ∧ Below w.heap.size w wr ∧ Hid (∀ i, i < k → ∃ m st kk, MemOk L wd sc i m st kk)) (fun i _ => n7 - (intOf i).toNat)
  case atStart => exact ⟨0, Nat.zero_le _, rfl, hid (by rw [List.take_zero, memB_nil]; exact Blk.new _ _ _), (Below.refl _ _).alloc (Nat.le_refl _) _, hid (fun i hi => absurd hi (by omega))⟩
  case round =>
    obtain ⟨k, hk, rfl, hblk, hb, hall⟩ := hrel
    by_cases hlt : k < n7
    · have hlt' : (k : Int) < (n7 : Int) := by omega
      obtain ⟨z, hz⟩ : ∃ z, Hid (L.members.getD k 0 = z) := ⟨_, rfl⟩
      have lo_z : -2147483648 ≤ z := by rw [← hz.out]; exact (hL.members k).1
      have hi_z : z ≤ 2147483647 := by rw [← hz.out]; exact (hL.members k).2
      have cz : wr.cell? ⟨b7, o7 + k, none⟩ = some (.int .i32 z) := by rw [hb.cell (p := ⟨b7, o7 + k, none⟩) hb7, ← hz.out]; exact H7.out k hlt
      by_cases hx10 : z < 0
      · go_wp2
        go_ret
        exact ⟨false, rfl, by simp, hb⟩
      have d_hx10 : decide (z < 0) = false := by simp; omega
      by_cases hx11 : (n0 : Int) ≤ z
      · go_wp2
        go_ret
        exact ⟨false, rfl, by simp, hb⟩
      have d_hx11 : decide ((n0 : Int) ≤ z) = false := by simp; omega
      by_cases hx12 : (n1 : Int) ≤ z
      · go_wp2
        go_ret
        exact ⟨false, rfl, by simp, hb⟩
      have d_hx12 : decide ((n1 : Int) ≤ z) = false := by simp; omega
      by_cases hx13 : (n2 : Int) ≤ z
      · go_wp2
        go_ret
        exact ⟨false, rfl, by simp, hb⟩
      have d_hx13 : decide ((n2 : Int) ≤ z) = false := by simp; omega
      by_cases hx14 : (n5 : Int) ≤ z
      · go_wp2
        go_ret
        exact ⟨false, rfl, by simp, hb⟩
      have d_hx14 : decide ((n5 : Int) ≤ z) = false := by simp; omega
      by_cases hx15 : (n9 : Int) ≤ z
      · go_wp2
        go_ret
        exact ⟨false, rfl, by simp, hb⟩
      have d_hx15 : decide ((n9 : Int) ≤ z) = false := by simp; omega
      obtain ⟨m, rfl⟩ := Int.eq_ofNat_of_zero_le (by omega : 0 ≤ z)
      obtain ⟨y, hy⟩ : ∃ z, Hid (L.scope.getD m 0 = z) := ⟨_, rfl⟩
      have lo_y : -2147483648 ≤ y := by rw [← hy.out]; exact (hL.scope m).1
      have hi_y : y ≤ 2147483647 := by rw [← hy.out]; exact (hL.scope m).2
      have cy : wr.cell? ⟨b0, o0 + m, none⟩ = some (.int .i32 y) := by rw [hb.cell (p := ⟨b0, o0 + m, none⟩) hb0, ← hy.out]; exact H0.out m (by omega)
      have hm0 : (m : Int) < (n0 : Int) := by omega
      have hm1 : (m : Int) < (n1 : Int) := by omega
      have hm5 : (m : Int) < (n5 : Int) := by omega
      by_cases hx16 : y ≠ (sc : Int)
      · go_wp2
        go_ret
        exact ⟨false, rfl, by simp, hb⟩
      have hysc : y = (sc : Int) := by omega
      subst hysc
      obtain ⟨b1, o1, e1, hb1, hc1⟩ := R1.out.2 (by omega)
      subst e1
      obtain ⟨s, hs1⟩ : ∃ z, Hid (L.stream.getD m 0 = z) := ⟨_, rfl⟩
      have lo_s : -2147483648 ≤ s := by rw [← hs1.out]; exact (hL.stream m).1
      have hi_s : s ≤ 2147483647 := by rw [← hs1.out]; exact (hL.stream m).2
      have cs : wr.cell? ⟨b1, o1 + m, none⟩ = some (.int .i32 s) := by rw [hb.cell (p := ⟨b1, o1 + m, none⟩) hb1, ← hs1.out]; exact hc1 m (by omega)
      clear hc1
      by_cases hx17 : s < 0
      · go_wp2
        go_ret
        exact ⟨false, rfl, by simp, hb⟩
      have d_hx17 : decide (s < 0) = false := by simp; omega
      by_cases hx18 : (n4 : Int) ≤ s
      · go_wp2
        go_ret
        exact ⟨false, rfl, by simp, hb⟩
      have d_hx18 : decide ((n4 : Int) ≤ s) = false := by simp; omega
      obtain ⟨st, rfl⟩ := Int.eq_ofNat_of_zero_le (by omega : 0 ≤ s)
      obtain ⟨b4, o4, e4, hb4, hc4⟩ := R4.out.2 (by omega)
      subst e4
      obtain ⟨l, hl⟩ : ∃ z, Hid (L.slot.getD st 0 = z) := ⟨_, rfl⟩
      have lo_l : -2147483648 ≤ l := by rw [← hl.out]; exact (hL.slot st).1
      have hi_l : l ≤ 2147483647 := by rw [← hl.out]; exact (hL.slot st).2
      have cl : wr.cell? ⟨b4, o4 + st, none⟩ = some (.int .i32 l) := by rw [hb.cell (p := ⟨b4, o4 + st, none⟩) hb4, ← hl.out]; exact hc4 st (by omega)
      clear hc4
      by_cases hx19 : l < 0
      · go_wp2
        go_ret
        exact ⟨false, rfl, by simp, hb⟩
      have d_hx19 : decide (l < 0) = false := by simp; omega
      by_cases hx20 : (wd : Int) ≤ l
      · go_wp2
        go_ret
        exact ⟨false, rfl, by simp, hb⟩
      have d_hx20 : decide ((wd : Int) ≤ l) = false := by simp; omega
      obtain ⟨kk, rfl⟩ := Int.eq_ofNat_of_zero_le (by omega : 0 ≤ l)
      have cB : wr.cell? ⟨w.heap.size, m, none⟩ = some (.bool (decide ((m : Int) ∈ L.members.take k))) := by rw [hblk.out.cell]; exact memB_get _ _ _ (by omega)
      have fB := hblk.out.frozen m
      generalize decide ((m : Int) ∈ L.members.take k) = bb at cB
      go_wp2
      go_roundw
      case rel =>
        obtain ⟨x0', x1, x2, x3, x4, x5, x6, x7, x8, x9, x10⟩ := HB0.out
        refine ⟨k + 1, by omega, by go_num, hid ?_, hb.setCell (Nat.le_refl _) _, hid ?_⟩
        · rw [take_mem_succ _ _ (by omega), hz.out, ← memB_set _ _ _ (by omega)]
          exact hblk.out.set m _
        · intro i hi
          by_cases e : i = k
          · subst e
            exact ⟨m, st, kk, hz.out, by omega, by omega, by omega, by omega, by omega, hy.out, hs1.out, by omega, hl.out, by omega⟩
          · exact hall.out i (by omega)
      case measure => simp [intOf]; omega
    · have ek : k = n7 := by omega
      subst ek
      clear hlt hk
      obtain ⟨w1, hw1⟩ : ∃ w1, w1 = wr := ⟨_, rfl⟩
      subst hw1
      have cB0 : ∀ j, j < n5 → w1.cell? ⟨w.heap.size, j, none⟩ = some (.bool (decide ((j : Int) ∈ L.members))) := fun j hj => by
        have hh := hblk.out.cell j
        rw [List.take_of_length_le (by rw [HB0.out.2.2.2.2.2.2.2.1]; exact Nat.le_refl _), memB_get _ _ _ hj] at hh
        exact hh
      have CB := hid cB0
      have HBW := hid hb
      have hgs : w.heap.size < w1.heap.size := hblk.out.lt
      clear cB0 hb hblk
      go_wp2
      go_loopw [33] (fun i wx => ∃ q : Nat, q ≤ k ∧ i = .int .i64 q ∧ Hid (Below w1.heap.size w1 wx) ∧ Hid (∀ i, i < q → ∃ m f t, SpanOk L wd sc i m f t)) (fun i _ => k - (intOf i).toNat)
      case atStart => exact ⟨0, Nat.zero_le _, rfl, hid (Below.refl _ _), hid (fun i hi => absurd hi (by omega))⟩
      case round =>
        obtain ⟨q, hq, rfl, hbx, hspan⟩ := hrel
        obtain ⟨wx, hwx⟩ : ∃ wx, wx = wr := ⟨_, rfl⟩
        subst hwx
        have hb : Below w.heap.size w wx := HBW.out.trans (hbx.out.mono HBW.out.size)
        by_cases hlt : q < k
        · have hlt' : (q : Int) < (k : Int) := by omega
          obtain ⟨m, st, kk, hmem⟩ := hall.out q hlt
          obtain ⟨x0', x1, x2, x3, x4, x5, x6, x7, x8, x9, x10⟩ := HB0.out
          have hm0 : m < n0 := by have := hmem.l0; omega
          have hm9 : m < n9 := by have := hmem.l9; omega
          have HM := hid hmem
          clear hmem x0' x1 x2 x3 x4 x5 x6 x7 x8 x9 x10
          have hm9' : (m : Int) < (n9 : Int) := by omega
          have hm10' : (m : Int) < (n10 : Int) := by omega
          have cz : wx.cell? ⟨b7, o7 + q, none⟩ = some (.int .i32 (m : Int)) := by rw [hb.cell (p := ⟨b7, o7 + q, none⟩) hb7, ← HM.out.em]; exact H7.out q hlt
          have him : (m : Int) ≤ 1048576 := by omega
          obtain ⟨b9, o9, e9, hb9, hc9⟩ := R9.out.2 (by omega)
          obtain ⟨b10, o10, e10, hb10, hc10⟩ := R10.out.2 (by omega)
          subst e9 e10
          obtain ⟨fz, hfz⟩ : ∃ z, Hid (L.froms.getD m 0 = z) := ⟨_, rfl⟩
          have lo_fz : -2147483648 ≤ fz := by rw [← hfz.out]; exact (hL.froms m).1
          have hi_fz : fz ≤ 2147483647 := by rw [← hfz.out]; exact (hL.froms m).2
          obtain ⟨tz, htz⟩ : ∃ z, Hid (L.tos.getD m 0 = z) := ⟨_, rfl⟩
          have lo_tz : -2147483648 ≤ tz := by rw [← htz.out]; exact (hL.tos m).1
          have hi_tz : tz ≤ 2147483647 := by rw [← htz.out]; exact (hL.tos m).2
          have cf : wx.cell? ⟨b9, o9 + m, none⟩ = some (.int .i32 fz) := by rw [hb.cell (p := ⟨b9, o9 + m, none⟩) hb9, ← hfz.out]; exact hc9 m (by omega)
          have ct : wx.cell? ⟨b10, o10 + m, none⟩ = some (.int .i32 tz) := by rw [hb.cell (p := ⟨b10, o10 + m, none⟩) hb10, ← htz.out]; exact hc10 m (by omega)
          clear hc9 hc10
          by_cases hy1 : fz < 0
          · go_wp2
            go_ret
            exact ⟨false, rfl, by simp, hb⟩
          have d_hy1 : decide (fz < 0) = false := by simp; omega
          by_cases hy2 : tz < fz
          · go_wp2
            go_ret
            exact ⟨false, rfl, by simp, hb⟩
          have d_hy2 : decide (tz < fz) = false := by simp; omega
          by_cases hy3 : (n8 : Int) < tz
          · go_wp2
            go_ret
            exact ⟨false, rfl, by simp, hb⟩
          have d_hy3 : decide ((n8 : Int) < tz) = false := by simp; omega
          obtain ⟨f, rfl⟩ := Int.eq_ofNat_of_zero_le (by omega : 0 ≤ fz)
          obtain ⟨t, rfl⟩ := Int.eq_ofNat_of_zero_le (by omega : 0 ≤ tz)
          go_wp2
          clear cf ct cz
          go_loopw [37] (fun i wy => ∃ p : Nat, f ≤ p ∧ p ≤ t ∧ i = .int .i64 p ∧ Hid (Below w1.heap.size w1 wy) ∧ Hid (∀ j, f ≤ j → j < p → ∃ pr, PredOk L wd sc j pr)) (fun i _ => t - (intOf i).toNat)
          case atStart => exact ⟨f, Nat.le_refl _, by omega, rfl, hbx, hid (fun j h1 h2 => absurd h2 (by omega))⟩
          case round =>
            obtain ⟨p, hp0, hp, rfl, hby, hpred⟩ := hrel
            obtain ⟨wy, hwy⟩ : ∃ wy, wy = wr := ⟨_, rfl⟩
            subst hwy
            clear hb
            have hb : Below w.heap.size w wy := HBW.out.trans (hby.out.mono HBW.out.size)
            by_cases hpt : p < t
            · have hpt' : (p : Int) < (t : Int) := by omega
              have hp8 : (p : Int) < (n8 : Int) := by omega
              obtain ⟨b8, o8, e8, hb8, hc8⟩ := R8.out.2 (by omega)
              subst e8
              obtain ⟨pz, hpz⟩ : ∃ z, Hid (L.preds.getD p 0 = z) := ⟨_, rfl⟩
              have lo_pz : -2147483648 ≤ pz := by rw [← hpz.out]; exact (hL.preds p).1
              have hi_pz : pz ≤ 2147483647 := by rw [← hpz.out]; exact (hL.preds p).2
              have cp : wy.cell? ⟨b8, o8 + p, none⟩ = some (.int .i32 pz) := by rw [hb.cell (p := ⟨b8, o8 + p, none⟩) hb8, ← hpz.out]; exact hc8 p (by omega)
              clear hc8
              by_cases hw1 : pz < 0
              · go_wp2
                go_ret
                exact ⟨false, rfl, by simp, hb⟩
              have d_hw1 : decide (pz < 0) = false := by simp; omega
              by_cases hw2 : (n0 : Int) ≤ pz
              · go_wp2
                go_ret
                exact ⟨false, rfl, by simp, hb⟩
              have d_hw2 : decide ((n0 : Int) ≤ pz) = false := by simp; omega
              by_cases hw3 : (n5 : Int) ≤ pz
              · go_wp2
                go_ret
                exact ⟨false, rfl, by simp, hb⟩
              have d_hw3 : decide ((n5 : Int) ≤ pz) = false := by simp; omega
              obtain ⟨pr, rfl⟩ := Int.eq_ofNat_of_zero_le (by omega : 0 ≤ pz)
              have hpr0 : (pr : Int) < (n0 : Int) := by omega
              have hpr5 : (pr : Int) < (n5 : Int) := by omega
              obtain ⟨y, hy⟩ : ∃ z, Hid (L.scope.getD pr 0 = z) := ⟨_, rfl⟩
              have lo_y : -2147483648 ≤ y := by rw [← hy.out]; exact (hL.scope pr).1
              have hi_y : y ≤ 2147483647 := by rw [← hy.out]; exact (hL.scope pr).2
              have cy : wy.cell? ⟨b0, o0 + pr, none⟩ = some (.int .i32 y) := by rw [hb.cell (p := ⟨b0, o0 + pr, none⟩) hb0, ← hy.out]; exact H0.out pr (by omega)
              by_cases hw4 : y ≠ (sc : Int)
              · go_wp2
                go_ret
                exact ⟨false, rfl, by simp, hb⟩
              have hysc : y = (sc : Int) := by omega
              subst hysc
              obtain ⟨b5, o5, e5, hb5, hc5⟩ := R5.out.2 (by omega)
              subst e5
              obtain ⟨rz, hrz⟩ : ∃ z, Hid (L.row.getD pr 0 = z) := ⟨_, rfl⟩
              have cr : wy.cell? ⟨b5, o5 + pr, none⟩ = some (.int .i64 rz) := by rw [hb.cell (p := ⟨b5, o5 + pr, none⟩) hb5, ← hrz.out]; exact hc5 pr (by omega)
              clear hc5
              have cm : wy.cell? ⟨w.heap.size, pr, none⟩ = some (.bool (decide ((pr : Int) ∈ L.members))) := by rw [hby.out.cell (p := ⟨w.heap.size, pr, none⟩) hgs]; exact CB.out pr (by omega)
              have HMEM : Hid ((pr : Int) ∈ L.members ↔ decide ((pr : Int) ∈ L.members) = true) := hid (by simp)
              generalize decide ((pr : Int) ∈ L.members) = bm at cm HMEM
              have hend : (bm = true ∨ (0 ≤ rz ∧ rz ≤ (n6 : Int) - (wd : Int))) → Hid (∀ j, f ≤ j → j < p + 1 → ∃ pr, PredOk L wd sc j pr) := fun hh => hid (by
                intro j h1 h2
                by_cases e : j = p
                · subst e
                  obtain ⟨x0', x1, x2, x3, x4, x5, x6, x7, x8, x9, x10⟩ := HB0.out
                  refine ⟨pr, hpz.out, by omega, by omega, hy.out, ?_⟩
                  rcases hh with h3 | h3
                  · exact .inl (HMEM.out.2 h3)
                  · exact .inr ⟨rz.toNat, by rw [hrz.out]; omega, by omega⟩
                · exact hpred.out j h1 (by omega))
              have HEND := hid hend
              clear hend
              cases bm with
              | true =>
                go_wp2
                go_roundw
                case rel => exact ⟨p + 1, by omega, by omega, by go_num, hby, HEND.out (.inl rfl)⟩
                case measure => simp [intOf]; omega
              | false =>
                by_cases hw5 : rz < 0
                · go_wp2
                  go_ret
                  exact ⟨false, rfl, by simp, hb⟩
                have d_hw5 : decide (rz < 0) = false := by simp; omega
                by_cases hw6 : (n6 : Int) - (wd : Int) < rz
                · go_wp2
                  go_ret
                  exact ⟨false, rfl, by simp, hb⟩
                have d_hw6 : decide ((n6 : Int) - (wd : Int) < rz) = false := by simp; omega
                go_wp2
                go_roundw
                case rel => exact ⟨p + 1, by omega, by omega, by go_num, hby, HEND.out (.inr ⟨by omega, by omega⟩)⟩
                case measure => simp [intOf]; omega
            · have ept : p = t := by omega
              have HSP : Hid (∀ i, i < q + 1 → ∃ m f t, SpanOk L wd sc i m f t) := hid (by
                intro i hi
                by_cases e : i = q
                · subst e
                  obtain ⟨x0', x1, x2, x3, x4, x5, x6, x7, x8, x9, x10⟩ := HB0.out
                  exact ⟨m, f, t, HM.out.em, hfz.out, htz.out, by omega, by omega, fun j h1 h2 => hpred.out j h1 (by omega)⟩
                · exact hspan.out i (by omega))
              go_wp2
              go_roundw
              case rel => exact ⟨q + 1, by omega, by go_num, hby, HSP⟩
              case measure => simp [intOf]; omega
        · have eqk : q = k := by omega
          subst eqk
          go_wp2
          go_ret
          obtain ⟨x0', x1, x2, x3, x4, x5, x6, x7, x8, x9, x10⟩ := HB0.out
          exact ⟨true, rfl, fun _ => ⟨wd, sc, m0, by omega, by omega, by omega, hz0.out, by omega, hy0.out, by omega, hx0.out, by omega, fun i hi => hall.out i (by omega), fun i hi => hspan.out i (by omega)⟩, hb⟩
end Go.Proofs.Qxb6603398a
