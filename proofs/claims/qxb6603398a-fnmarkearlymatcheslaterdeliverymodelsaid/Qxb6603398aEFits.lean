/-
  THE WALK of fitsMarkEarly: it answers true only where every event fits.
-/
import Derived.Test.Qxb6603398aRows
import Derived.Test.Qxb6603398aMem
import Derived.Test.Qxb6603398aEarly
import Derived.Test.Qxb6603398aEState
import Derived.Deep.Cut
namespace Go.Proofs.Qxb6603398a
open Go.RowKit Mem Early
set_option linter.unusedVariables false

def FitERet (L : Lists) (w : World) (e : Ending) (w' : World) : Prop := ∃ b, e = .returned (.bool b) ∧ (b = true → ∀ i, i < L.msgs.length → Fit L i) ∧ Below w.heap.size w w'

set_option maxRecDepth 20000 in
set_option maxHeartbeats 8000000 in
theorem fits_early (L : Lists) (hL : InE L) (a1 a2 a3 a4 a5 a6 a7 a8 a9 a10 a11 : Option Addr) (n1 n2 n3 n4 n5 n6 n7 n8 n9 n10 n11 c1 c2 c3 c4 c5 c6 c7 c8 c9 c10 c11 : Nat) (w : World) (r1 : EvRow w a1 n1 L.msgs L.sends) (r2 : Row .i32 w a2 n2 L.sender) (r3 : Row .i32 w a3 n3 L.seen) (r4 : Row .i32 w a4 n4 L.scope) (r5 : Row .i32 w a5 n5 L.stream) (r6 : Row .i32 w a6 n6 L.seq) (r7 : Row .i64 w a7 n7 L.row) (r8 : Row .i32 w a8 n8 L.ss) (r9 : Row .i32 w a9 n9 L.slot) (r10 : Row .i32 w a10 n10 L.width) (r11 : Row .i32 w a11 n11 L.rows) (hs : n1 + n2 + n3 + n4 + n5 + n6 + n7 + n8 + n9 + n10 + n11 ≤ 1048576) (h1 : n1 ≤ 4096) :
    Calls Try.prog 14 #[.int .i32 (L.p : Int), .slice a1 n1 c1, .slice a2 n2 c2, .slice a3 n3 c3, .slice a4 n4 c4, .slice a5 n5 c5, .slice a6 n6 c6, .slice a7 n7 c7, .slice a8 n8 c8, .slice a9 n9 c9, .slice a10 n10 c10, .slice a11 n11 c11] w (FitERet L w) := by
  have R1 := hid r1
  have R2 := hid r2
  have R3 := hid r3
  have R4 := hid r4
  have R5 := hid r5
  have R6 := hid r6
  have R7 := hid r7
  have R8 := hid r8
  have R9 := hid r9
  have R10 := hid r10
  have R11 := hid r11
  clear r1 r2 r3 r4 r5 r6 r7 r8 r9 r10 r11
  have HB0 : Hid (L.msgs.length = n1 ∧ L.sender.length = n2 ∧ L.seen.length = n3 ∧ L.scope.length = n4 ∧ L.stream.length = n5 ∧ L.seq.length = n6 ∧ L.row.length = n7 ∧ L.ss.length = n8 ∧ L.slot.length = n9 ∧ L.width.length = n10 ∧ L.rows.length = n11) := hid ⟨R1.out.1, R2.out.1, R3.out.1, R4.out.1, R5.out.1, R6.out.1, R7.out.1, R8.out.1, R9.out.1, R10.out.1, R11.out.1⟩
  obtain ⟨p, hp⟩ : ∃ p, Hid (L.p = p) := ⟨_, rfl⟩
  have ip : (p : Int) ≤ 65536 := by have := hL.p; rw [hp.out] at this; omega
  rw [hp.out]
  have dp0 : decide ((p : Int) < 0) = false := by simp
  have dp1 : decide ((65536 : Int) < (p : Int)) = false := by simp; omega
  have j1 : (n1 : Int) ≤ 4096 := by omega
  have dn1 : decide ((4096 : Int) < (n1 : Int)) = false := by simp; omega
  have i1 : (n1 : Int) ≤ 1048576 := by omega
  have i2 : (n2 : Int) ≤ 1048576 := by omega
  have i3 : (n3 : Int) ≤ 1048576 := by omega
  have i4 : (n4 : Int) ≤ 1048576 := by omega
  have i5 : (n5 : Int) ≤ 1048576 := by omega
  have i6 : (n6 : Int) ≤ 1048576 := by omega
  have i7 : (n7 : Int) ≤ 1048576 := by omega
  have i8 : (n8 : Int) ≤ 1048576 := by omega
  have i9 : (n9 : Int) ≤ 1048576 := by omega
  have i10 : (n10 : Int) ≤ 1048576 := by omega
  have i11 : (n11 : Int) ≤ 1048576 := by omega
  have d2 : decide ((1048576 : Int) < (n2 : Int)) = false := by simp; omega
  have d3 : decide ((1048576 : Int) < (n3 : Int)) = false := by simp; omega
  have d4 : decide ((1048576 : Int) < (n4 : Int)) = false := by simp; omega
  have d5 : decide ((1048576 : Int) < (n5 : Int)) = false := by simp; omega
  have d6 : decide ((1048576 : Int) < (n6 : Int)) = false := by simp; omega
  have d7 : decide ((1048576 : Int) < (n7 : Int)) = false := by simp; omega
  have d8 : decide ((1048576 : Int) < (n8 : Int)) = false := by simp; omega
  have d9 : decide ((1048576 : Int) < (n9 : Int)) = false := by simp; omega
  have d10 : decide ((1048576 : Int) < (n10 : Int)) = false := by simp; omega
  have d11 : decide ((1048576 : Int) < (n11 : Int)) = false := by simp; omega
  by_cases hx1 : 1048576 < 8 * n1 + 4 * (n2 + n3 + n4 + n5 + n6 + n8 + n9 + n10 + n11) + 8 * n7
  · go_enter Try.func14, Try.ntmps14
    go_wp2
    go_ret
    exact ⟨false, rfl, by simp, Below.refl _ _⟩
  go_enter Try.func14, Try.ntmps14
  go_wp2
  go_loopw [26] (fun i wr => ∃ k : Nat, k ≤ n1 ∧ i = .int .i64 k ∧ Below w.heap.size w wr ∧ Hid (∀ i, i < k → Fit L i)) (fun i _ => n1 - (intOf i).toNat)
  case atStart => exact ⟨0, Nat.zero_le _, rfl, Below.refl _ _, hid (fun i hi => absurd hi (by omega))⟩
  case round =>
    obtain ⟨k, hk, rfl, hb, hall⟩ := hrel
    by_cases hlt : k < n1
    · have hlt' : (k : Int) < (n1 : Int) := by omega
      obtain ⟨b1, o1, e1, hb1, hc1⟩ := R1.out.2.2 (by omega)
      subst e1
      obtain ⟨z, hz⟩ : ∃ z, Hid (L.msgs.getD k 0 = z) := ⟨_, rfl⟩
      obtain ⟨s, hs1⟩ : ∃ s, Hid (L.sends.getD k false = s) := ⟨_, rfl⟩
      have lo_z : -2147483648 ≤ z := by rw [← hz.out]; exact (hL.msgs k).1
      have hi_z : z ≤ 2147483647 := by rw [← hz.out]; exact (hL.msgs k).2
      have cz : wr.cell? ⟨b1, o1 + k * 2, none⟩ = some (.int .i32 z) := by rw [hb.cell (p := ⟨b1, o1 + k * 2, none⟩) hb1, ← hz.out]; exact (hc1 k hlt).1
      have cs : wr.cell? ⟨b1, o1 + k * 2 + 1, none⟩ = some (.bool s) := by rw [hb.cell (p := ⟨b1, o1 + k * 2 + 1, none⟩) hb1, ← hs1.out]; exact (hc1 k hlt).2
      clear hc1
      cases s
      case true =>
        go_wp2
        go_roundw
        case rel => exact ⟨k + 1, by omega, by go_num, hb.alloc hb.size _, hid (fun i hi => by
          by_cases e : i = k
          · subst e
            exact .inl hs1.out
          · exact hall.out i (by omega))⟩
        case measure => simp [intOf]; omega
      case false =>
        go_upto_if 140 with fail
        by_cases hq2 : z < 0
        · go_wp2
          go_ret
          exact ⟨false, rfl, by simp, hb.alloc hb.size _⟩
        have d_hq2 : decide (z < 0) = false := by simp; omega
        by_cases hq3 : (n2 : Int) ≤ z
        · go_wp2
          go_ret
          exact ⟨false, rfl, by simp, hb.alloc hb.size _⟩
        have d_hq3 : decide ((n2 : Int) ≤ z) = false := by simp; omega
        go_upto_if 151 with fail
        obtain ⟨m, rfl⟩ := Int.eq_ofNat_of_zero_le (by omega : 0 ≤ z)
        have em : L.msgN k = m := by unfold Lists.msgN; rw [hz.out]; omega
        have EM := hid em
        clear em
        obtain ⟨b2, o2, e2, hb2, hc2⟩ := R2.out.2 (by omega)
        subst e2
        obtain ⟨x2, hx2⟩ : ∃ z, Hid (L.sender.getD m 0 = z) := ⟨_, rfl⟩
        have lo_x2 : -2147483648 ≤ x2 := by rw [← hx2.out]; exact (hL.sender m).1
        have hi_x2 : x2 ≤ 2147483647 := by rw [← hx2.out]; exact (hL.sender m).2
        have cx2 : (wr.alloc (Obj.cells #[Value.int .i32 (m : Int), .bool false] 38)).cell? ⟨b2, o2 + m, none⟩ = some (.int .i32 x2) := by rw [(hb.alloc hb.size _).cell (p := ⟨b2, o2 + m, none⟩) hb2, ← hx2.out]; exact hc2 m (by omega)
        clear hc2
        by_cases hx_s : x2 < 0
        ·
          go_wp2
          go_roundw
          case rel => exact ⟨k + 1, by omega, by go_num, hb.alloc hb.size _, hid (fun i hi => by
            by_cases e : i = k
            · subst e
              exact .inr ⟨by rw [EM.out]; exact hz.out, by rw [EM.out, HB0.out.2.1]; omega, .inl (by rw [EM.out, hx2.out]; exact hx_s)⟩
            · exact hall.out i (by omega))⟩
          case measure => simp [intOf]; omega
        have d_s : decide (x2 < 0) = false := by simp; omega
        go_upto_if 156 with fail
        by_cases hq4 : (n3 : Int) ≤ (m : Int)
        · go_wp2
          go_ret
          exact ⟨false, rfl, by simp, hb.alloc hb.size _⟩
        have d_hq4 : decide ((n3 : Int) ≤ (m : Int)) = false := by simp; omega
        go_upto_if 160 with fail
        obtain ⟨b3, o3, e3, hb3, hc3⟩ := R3.out.2 (by omega)
        subst e3
        obtain ⟨x3, hx3⟩ : ∃ z, Hid (L.seen.getD m 0 = z) := ⟨_, rfl⟩
        have lo_x3 : -2147483648 ≤ x3 := by rw [← hx3.out]; exact (hL.seen m).1
        have hi_x3 : x3 ≤ 2147483647 := by rw [← hx3.out]; exact (hL.seen m).2
        have cx3 : (wr.alloc (Obj.cells #[Value.int .i32 (m : Int), .bool false] 38)).cell? ⟨b3, o3 + m, none⟩ = some (.int .i32 x3) := by rw [(hb.alloc hb.size _).cell (p := ⟨b3, o3 + m, none⟩) hb3, ← hx3.out]; exact hc3 m (by omega)
        clear hc3
        by_cases hx_e : x3 = (p : Int) + 1
        · have d_e : (x3 == (p : Int) + 1) = true := by simp [hx_e]
          have HXE := hid hx_e
          clear hx_e
          go_wp2
          go_roundw
          case rel => exact ⟨k + 1, by omega, by go_num, hb.alloc hb.size _, hid (fun i hi => by
            by_cases e : i = k
            · subst e
              exact .inr ⟨by rw [EM.out]; exact hz.out, by rw [EM.out, HB0.out.2.1]; omega, .inr ⟨by rw [EM.out, HB0.out.2.2.1]; omega, .inl (by rw [EM.out, hx3.out, hp.out]; exact HXE.out)⟩⟩
            · exact hall.out i (by omega))⟩
          case measure => simp [intOf]; omega
        have d_e : (x3 == (p : Int) + 1) = false := by simp [hx_e]
        go_upto_if 167 with fail
        by_cases hq5 : (n4 : Int) ≤ (m : Int)
        · go_wp2
          go_ret
          exact ⟨false, rfl, by simp, hb.alloc hb.size _⟩
        have d_hq5 : decide ((n4 : Int) ≤ (m : Int)) = false := by simp; omega
        by_cases hq6 : (n5 : Int) ≤ (m : Int)
        · go_wp2
          go_ret
          exact ⟨false, rfl, by simp, hb.alloc hb.size _⟩
        have d_hq6 : decide ((n5 : Int) ≤ (m : Int)) = false := by simp; omega
        by_cases hq7 : (n6 : Int) ≤ (m : Int)
        · go_wp2
          go_ret
          exact ⟨false, rfl, by simp, hb.alloc hb.size _⟩
        have d_hq7 : decide ((n6 : Int) ≤ (m : Int)) = false := by simp; omega
        by_cases hq8 : (n7 : Int) ≤ (m : Int)
        · go_wp2
          go_ret
          exact ⟨false, rfl, by simp, hb.alloc hb.size _⟩
        have d_hq8 : decide ((n7 : Int) ≤ (m : Int)) = false := by simp; omega
        go_upto_if 189 with fail
        obtain ⟨b4, o4, e4, hb4, hc4⟩ := R4.out.2 (by omega)
        subst e4
        obtain ⟨x4, hx4⟩ : ∃ z, Hid (L.scope.getD m 0 = z) := ⟨_, rfl⟩
        have lo_x4 : -2147483648 ≤ x4 := by rw [← hx4.out]; exact (hL.scope m).1
        have hi_x4 : x4 ≤ 2147483647 := by rw [← hx4.out]; exact (hL.scope m).2
        have cx4 : (wr.alloc (Obj.cells #[Value.int .i32 (m : Int), .bool false] 38)).cell? ⟨b4, o4 + m, none⟩ = some (.int .i32 x4) := by rw [(hb.alloc hb.size _).cell (p := ⟨b4, o4 + m, none⟩) hb4, ← hx4.out]; exact hc4 m (by omega)
        clear hc4
        by_cases hq9 : x4 < 0
        · go_wp2
          go_ret
          exact ⟨false, rfl, by simp, hb.alloc hb.size _⟩
        have d_hq9 : decide (x4 < 0) = false := by simp; omega
        by_cases hq10 : (n10 : Int) ≤ x4
        · go_wp2
          go_ret
          exact ⟨false, rfl, by simp, hb.alloc hb.size _⟩
        have d_hq10 : decide ((n10 : Int) ≤ x4) = false := by simp; omega
        go_upto_if 202 with fail
        obtain ⟨sc, rfl⟩ := Int.eq_ofNat_of_zero_le (by omega : 0 ≤ x4)
        obtain ⟨b10, o10, e10, hb10, hc10⟩ := R10.out.2 (by omega)
        subst e10
        obtain ⟨x10, hx10⟩ : ∃ z, Hid (L.width.getD sc 0 = z) := ⟨_, rfl⟩
        have lo_x10 : -2147483648 ≤ x10 := by rw [← hx10.out]; exact (hL.width sc).1
        have hi_x10 : x10 ≤ 2147483647 := by rw [← hx10.out]; exact (hL.width sc).2
        have cx10 : (wr.alloc (Obj.cells #[Value.int .i32 (m : Int), .bool false] 38)).cell? ⟨b10, o10 + sc, none⟩ = some (.int .i32 x10) := by rw [(hb.alloc hb.size _).cell (p := ⟨b10, o10 + sc, none⟩) hb10, ← hx10.out]; exact hc10 sc (by omega)
        clear hc10
        by_cases hq11 : x10 < 0
        · go_wp2
          go_ret
          exact ⟨false, rfl, by simp, hb.alloc hb.size _⟩
        have d_hq11 : decide (x10 < 0) = false := by simp; omega
        obtain ⟨wd, rfl⟩ := Int.eq_ofNat_of_zero_le (by omega : 0 ≤ x10)
        obtain ⟨b7, o7, e7, hb7, hc7⟩ := R7.out.2 (by omega)
        subst e7
        obtain ⟨x7, hx7⟩ : ∃ z, Hid (L.row.getD m 0 = z) := ⟨_, rfl⟩
        have lo_x7 : -9223372036854775808 ≤ x7 := by rw [← hx7.out]; exact (hL.row m).1
        have hi_x7 : x7 ≤ 9223372036854775807 := by rw [← hx7.out]; exact (hL.row m).2
        have cx7 : (wr.alloc (Obj.cells #[Value.int .i32 (m : Int), .bool false] 38)).cell? ⟨b7, o7 + m, none⟩ = some (.int .i64 x7) := by rw [(hb.alloc hb.size _).cell (p := ⟨b7, o7 + m, none⟩) hb7, ← hx7.out]; exact hc7 m (by omega)
        clear hc7
        by_cases hq12 : x7 < 0
        · go_wp2
          go_ret
          exact ⟨false, rfl, by simp, hb.alloc hb.size _⟩
        have d_hq12 : decide (x7 < 0) = false := by simp; omega
        by_cases hq13 : (n11 : Int) - (wd : Int) < x7
        · go_wp2
          go_ret
          exact ⟨false, rfl, by simp, hb.alloc hb.size _⟩
        have d_hq13 : decide ((n11 : Int) - (wd : Int) < x7) = false := by simp; omega
        go_upto_if 227 with fail
        obtain ⟨r, rfl⟩ := Int.eq_ofNat_of_zero_le (by omega : 0 ≤ x7)
        obtain ⟨b6, o6, e6, hb6, hc6⟩ := R6.out.2 (by omega)
        subst e6
        obtain ⟨x6, hx6⟩ : ∃ z, Hid (L.seq.getD m 0 = z) := ⟨_, rfl⟩
        have lo_x6 : -2147483648 ≤ x6 := by rw [← hx6.out]; exact (hL.seq m).1
        have hi_x6 : x6 ≤ 2147483647 := by rw [← hx6.out]; exact (hL.seq m).2
        have cx6 : (wr.alloc (Obj.cells #[Value.int .i32 (m : Int), .bool false] 38)).cell? ⟨b6, o6 + m, none⟩ = some (.int .i32 x6) := by rw [(hb.alloc hb.size _).cell (p := ⟨b6, o6 + m, none⟩) hb6, ← hx6.out]; exact hc6 m (by omega)
        clear hc6
        by_cases hq14 : x6 < 1
        · go_wp2
          go_ret
          exact ⟨false, rfl, by simp, hb.alloc hb.size _⟩
        have d_hq14 : decide (x6 < 1) = false := by simp; omega
        go_upto_if 232 with fail
        obtain ⟨b5, o5, e5, hb5, hc5⟩ := R5.out.2 (by omega)
        subst e5
        obtain ⟨x5, hx5⟩ : ∃ z, Hid (L.stream.getD m 0 = z) := ⟨_, rfl⟩
        have lo_x5 : -2147483648 ≤ x5 := by rw [← hx5.out]; exact (hL.stream m).1
        have hi_x5 : x5 ≤ 2147483647 := by rw [← hx5.out]; exact (hL.stream m).2
        have cx5 : (wr.alloc (Obj.cells #[Value.int .i32 (m : Int), .bool false] 38)).cell? ⟨b5, o5 + m, none⟩ = some (.int .i32 x5) := by rw [(hb.alloc hb.size _).cell (p := ⟨b5, o5 + m, none⟩) hb5, ← hx5.out]; exact hc5 m (by omega)
        clear hc5
        by_cases hq15 : x5 < 0
        · go_wp2
          go_ret
          exact ⟨false, rfl, by simp, hb.alloc hb.size _⟩
        have d_hq15 : decide (x5 < 0) = false := by simp; omega
        by_cases hq16 : (n8 : Int) ≤ x5
        · go_wp2
          go_ret
          exact ⟨false, rfl, by simp, hb.alloc hb.size _⟩
        have d_hq16 : decide ((n8 : Int) ≤ x5) = false := by simp; omega
        go_upto_if 245 with fail
        obtain ⟨st, rfl⟩ := Int.eq_ofNat_of_zero_le (by omega : 0 ≤ x5)
        obtain ⟨b8, o8, e8, hb8, hc8⟩ := R8.out.2 (by omega)
        subst e8
        obtain ⟨x8, hx8⟩ : ∃ z, Hid (L.ss.getD st 0 = z) := ⟨_, rfl⟩
        have lo_x8 : -2147483648 ≤ x8 := by rw [← hx8.out]; exact (hL.ss st).1
        have hi_x8 : x8 ≤ 2147483647 := by rw [← hx8.out]; exact (hL.ss st).2
        have cx8 : (wr.alloc (Obj.cells #[Value.int .i32 (m : Int), .bool false] 38)).cell? ⟨b8, o8 + st, none⟩ = some (.int .i32 x8) := by rw [(hb.alloc hb.size _).cell (p := ⟨b8, o8 + st, none⟩) hb8, ← hx8.out]; exact hc8 st (by omega)
        clear hc8
        have esc : L.scN m = sc := by unfold Lists.scN; rw [hx4.out]; omega
        have ewd : L.wdN m = wd := by unfold Lists.wdN; rw [esc, hx10.out]; omega
        have ero : L.rowN m = r := by unfold Lists.rowN; rw [hx7.out]; omega
        have est : L.stN m = st := by unfold Lists.stN; rw [hx5.out]; omega
        have FUL : Hid ((∀ s : Nat, s < n10 → x8 = (s : Int) → st < n9 ∧ L.slot.getD st 0 = (L.slN st : Int) ∧ (L.slN st : Int) < L.width.getD s 0) → Fit L k) := by
          obtain ⟨q1, q2, q3, q4, q5, q6, q7, q8, q9, q10, q11⟩ := HB0.out
          refine hid (fun hsl => .inr ⟨by rw [EM.out]; exact hz.out, by rw [EM.out, q2]; omega, .inr ⟨by rw [EM.out, q3]; omega, .inr ?_⟩⟩)
          rw [EM.out]
          exact ⟨by rw [q4]; omega, by rw [q5]; omega, by rw [q6]; omega, by rw [q7]; omega, by rw [esc]; exact hx4.out, by rw [esc, q10]; omega, by rw [esc, ewd]; exact hx10.out, by rw [ero]; exact hx7.out, by rw [ero, ewd, q11]; omega, by rw [hx6.out]; omega, by rw [est]; exact hx5.out, by rw [est, q8]; omega, fun s h3 h4 => by rw [est] at h4 ⊢; rw [q9]; exact hsl s (by rw [← q10]; exact h3) (by rw [← hx8.out]; exact h4)⟩
        clear esc ewd ero est
        by_cases hx_a : x8 < 0
        · have d_a : decide (0 ≤ x8) = false := by simp; omega
          go_wp2
          go_roundw
          case rel => exact ⟨k + 1, by omega, by go_num, hb.alloc hb.size _, hid (fun i hi => by
            by_cases e : i = k
            · subst e
              exact FUL.out (fun s _ h2 => by omega)
            · exact hall.out i (by omega))⟩
          case measure => simp [intOf]; omega
        have d_a : decide (0 ≤ x8) = true := by simp; omega
        by_cases hx_b : (n10 : Int) ≤ x8
        · have d_b : decide (x8 < (n10 : Int)) = false := by simp; omega
          go_wp2
          go_roundw
          case rel => exact ⟨k + 1, by omega, by go_num, hb.alloc hb.size _, hid (fun i hi => by
            by_cases e : i = k
            · subst e
              exact FUL.out (fun s h1 h2 => by omega)
            · exact hall.out i (by omega))⟩
          case measure => simp [intOf]; omega
        have d_b : decide (x8 < (n10 : Int)) = true := by simp; omega
        obtain ⟨s8, rfl⟩ := Int.eq_ofNat_of_zero_le (by omega : 0 ≤ x8)
        by_cases hx_c : n9 ≤ st
        · have d_c : decide ((n9 : Int) ≤ (st : Int)) = true := by simp; omega
          go_wp2
          go_quiet (fail)
          go_wp2
          go_ret
          exact ⟨false, rfl, by simp, below_drewN (hb.alloc hb.size _) _⟩
        have d_c : decide ((n9 : Int) ≤ (st : Int)) = false := by simp; omega
        obtain ⟨b9, o9, e9, hb9, hc9⟩ := R9.out.2 (by omega)
        subst e9
        obtain ⟨x9, hx9⟩ : ∃ z, Hid (L.slot.getD st 0 = z) := ⟨_, rfl⟩
        have lo_x9 : -2147483648 ≤ x9 := by rw [← hx9.out]; exact (hL.slot st).1
        have hi_x9 : x9 ≤ 2147483647 := by rw [← hx9.out]; exact (hL.slot st).2
        have cx9 : (wr.alloc (Obj.cells #[Value.int .i32 (m : Int), .bool false] 38)).cell? ⟨b9, o9 + st, none⟩ = some (.int .i32 x9) := by rw [(hb.alloc hb.size _).cell (p := ⟨b9, o9 + st, none⟩) hb9, ← hx9.out]; exact hc9 st (by omega)
        clear hc9
        by_cases hx_d : x9 < 0
        · have d_d : decide (x9 < 0) = true := by simp; omega
          go_wp2
          go_quiet (fail)
          go_wp2
          go_ret
          exact ⟨false, rfl, by simp, below_drewN (hb.alloc hb.size _) _⟩
        have d_d : decide (x9 < 0) = false := by simp; omega
        obtain ⟨sl, rfl⟩ := Int.eq_ofNat_of_zero_le (by omega : 0 ≤ x9)
        obtain ⟨y10, hy10⟩ : ∃ z, Hid (L.width.getD s8 0 = z) := ⟨_, rfl⟩
        have lo_y10 : -2147483648 ≤ y10 := by rw [← hy10.out]; exact (hL.width s8).1
        have hi_y10 : y10 ≤ 2147483647 := by rw [← hy10.out]; exact (hL.width s8).2
        have cy10 : (wr.alloc (Obj.cells #[Value.int .i32 (m : Int), .bool false] 38)).cell? ⟨b10, o10 + s8, none⟩ = some (.int .i32 y10) := by
          obtain ⟨b', o', e', _, hc'⟩ := R10.out.2 (by omega)
          simp only [Option.some.injEq, Addr.mk.injEq, and_true] at e'
          obtain ⟨rfl, rfl⟩ := e'
          rw [(hb.alloc hb.size _).cell (p := ⟨b10, o10 + s8, none⟩) hb10, ← hy10.out]; exact hc' s8 (by omega)
        by_cases hx_f : y10 ≤ (sl : Int)
        · have d_f : decide (y10 ≤ (sl : Int)) = true := by simp; omega
          go_wp2
          go_quiet (fail)
          go_wp2
          go_ret
          exact ⟨false, rfl, by simp, below_drewN (hb.alloc hb.size _) _⟩
        have d_f : decide (y10 ≤ (sl : Int)) = false := by simp; omega
        go_wp2
        go_quiet (fail)
        go_wp2
        go_roundw
        case rel => exact ⟨k + 1, by omega, by go_num, below_drewN (hb.alloc hb.size _) _, hid (fun i hi => by
          by_cases e : i = k
          · subst e
            refine FUL.out (fun s h1 h2 => ?_)
            have e2 : s8 = s := by omega
            subst e2
            have e3 : L.slN st = sl := by unfold Lists.slN; rw [hx9.out]; omega
            rw [e3, hx9.out, hy10.out]
            exact ⟨by omega, rfl, by omega⟩
          · exact hall.out i (by omega))⟩
        case measure => simp [intOf]; omega
    · have ek : k = n1 := by omega
      subst ek
      go_wp2
      go_ret
      exact ⟨true, rfl, fun _ i hi => hall.out i (by rw [← HB0.out.1]; exact hi), hb⟩
end Go.Proofs.Qxb6603398a
