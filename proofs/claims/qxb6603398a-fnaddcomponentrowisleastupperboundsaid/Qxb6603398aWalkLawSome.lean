/-
  THE LAW's OWN WALK (FnAddComponentRowIsLeastUpperBound).
-/
import Derived.Test.Qxb6603398aCopies
namespace Go.Proofs.Qxb6603398a
open Go.RowKit Mem Plain
set_option linter.unusedVariables false

set_option maxRecDepth 20000 in
set_option maxHeartbeats 20000000 in
theorem law_some (L : Lists) (hL : In L) (a0 a1 a2 a3 a4 a5 a6 a7 a9 a10 : Option Addr) (x8 : Addr) (n0 n1 n2 n3 n4 n5 n6 n7 n8 n9 n10 c0 c1 c2 c3 c4 c5 c6 c7 c8 c9 c10 : Nat) (w : World) (r0 : Row .i32 w a0 n0 L.scope) (r1 : Row .i32 w a1 n1 L.stream) (r2 : Row .i32 w a2 n2 L.seq) (r3 : Row .i32 w a3 n3 L.width) (r4 : Row .i32 w a4 n4 L.slot) (r5 : Row .i64 w a5 n5 L.row) (r6 : Row .i32 w a6 n6 L.rows) (r7 : Row .i32 w a7 n7 L.members) (r8 : Row .i32 w (some x8) n8 L.preds) (r9 : Row .i32 w a9 n9 L.froms) (r10 : Row .i32 w a10 n10 L.tos) (q0 : n0 ≤ maxLen) (q1 : n1 ≤ maxLen) (q2 : n2 ≤ maxLen) (q3 : n3 ≤ maxLen) (q4 : n4 ≤ maxLen) (q5 : n5 ≤ maxLen) (q6 : n6 ≤ maxLen) (q7 : n7 ≤ maxLen) (q8 : n8 ≤ maxLen) (q9 : n9 ≤ maxLen) (q10 : n10 ≤ maxLen) :
    Calls Try.prog 4 #[.slice a0 n0 c0, .slice a1 n1 c1, .slice a2 n2 c2, .slice a3 n3 c3, .slice a4 n4 c4, .slice a5 n5 c5, .slice a6 n6 c6, .slice a7 n7 c7, .slice (some x8) n8 c8, .slice a9 n9 c9, .slice a10 n10 c10] w (TrueRet w) := by
  have R0 := hid r0
  have R1 := hid r1
  have R2 := hid r2
  have R3 := hid r3
  have R4 := hid r4
  have R5 := hid r5
  have R6 := hid r6
  have R7 := hid r7
  have R8 := hid r8
  have R9 := hid r9
  have R10 := hid r10
  clear r0 r1 r2 r3 r4 r5 r6 r7 r8 r9 r10
  go_enter Try.func4, Try.ntmps4
  go_wp2_with fail
  refine (bytes_add a0 a1 a2 a3 a4 a5 a6 a7 (some x8) a9 a10 n0 n1 n2 n3 n4 n5 n6 n7 n8 n9 n10 c0 c1 c2 c3 c4 c5 c6 c7 c8 c9 c10 _ q0 q1 q2 q3 q4 q5 q6 q7 q8 q9 q10).mono ?_
  rintro e w' ⟨b, rfl, hsum, rfl⟩
  have HSUM := hid hsum
  clear hsum q0 q1 q2 q3 q4 q5 q6 q7 q8 q9 q10
  cases b
  · go_wp2
    go_ret
    exact ⟨rfl, Below.refl _ _⟩
  have hs : n0 + n1 + n2 + n3 + n4 + n5 + n6 + n7 + n8 + n9 + n10 ≤ 1048576 := HSUM.out (by simp)
  clear HSUM
  have i0 : (n0 : Int) ≤ 1048576 := by omega
  have d0 : decide ((1048576 : Int) < (n0 : Int)) = false := by simp; omega
  have i1 : (n1 : Int) ≤ 1048576 := by omega
  have d1 : decide ((1048576 : Int) < (n1 : Int)) = false := by simp; omega
  have i2 : (n2 : Int) ≤ 1048576 := by omega
  have d2 : decide ((1048576 : Int) < (n2 : Int)) = false := by simp; omega
  have i3 : (n3 : Int) ≤ 1048576 := by omega
  have d3 : decide ((1048576 : Int) < (n3 : Int)) = false := by simp; omega
  have i4 : (n4 : Int) ≤ 1048576 := by omega
  have d4 : decide ((1048576 : Int) < (n4 : Int)) = false := by simp; omega
  have i5 : (n5 : Int) ≤ 1048576 := by omega
  have d5 : decide ((1048576 : Int) < (n5 : Int)) = false := by simp; omega
  have i6 : (n6 : Int) ≤ 1048576 := by omega
  have d6 : decide ((1048576 : Int) < (n6 : Int)) = false := by simp; omega
  have i7 : (n7 : Int) ≤ 1048576 := by omega
  have d7 : decide ((1048576 : Int) < (n7 : Int)) = false := by simp; omega
  have i8 : (n8 : Int) ≤ 1048576 := by omega
  have d8 : decide ((1048576 : Int) < (n8 : Int)) = false := by simp; omega
  have i9 : (n9 : Int) ≤ 1048576 := by omega
  have d9 : decide ((1048576 : Int) < (n9 : Int)) = false := by simp; omega
  have i10 : (n10 : Int) ≤ 1048576 := by omega
  have d10 : decide ((1048576 : Int) < (n10 : Int)) = false := by simp; omega
  go_wp2_with fail
  refine (fits_any L hL a0 a1 a2 a3 a4 a5 a6 a7 (some x8) a9 a10 n0 n1 n2 n3 n4 n5 n6 n7 n8 n9 n10 c0 c1 c2 c3 c4 c5 c6 c7 c8 c9 c10 w R0.out R1.out R2.out R3.out R4.out R5.out R6.out R7.out R8.out R9.out R10.out hs).mono ?_
  rintro e w2 ⟨b, rfl, hfit, hb2⟩
  have HFIT := hid hfit
  have HB2 := hid hb2
  clear hfit hb2
  cases b
  · go_wp2
    go_ret
    exact ⟨rfl, HB2.out⟩
  obtain ⟨wd, sc, m0, hf⟩ := HFIT.out (by simp)
  clear HFIT
  have hn : Lens L n0 n1 n2 n3 n4 n5 n6 n7 n8 n9 n10 := ⟨R0.out.1, R1.out.1, R2.out.1, R3.out.1, R4.out.1, R5.out.1, R6.out.1, R7.out.1, R8.out.1, R9.out.1, R10.out.1⟩
  have hmm := hf.mem' hf.some
  have hss := hf.span' hf.some
  have u0 : m0 < n0 := by rw [← hn.l0]; exact hf.l0
  have u1 : 0 < n1 := by rw [← hn.l1]; exact Nat.lt_of_le_of_lt (Nat.zero_le _) hmm.l1
  have u2 : 0 < n2 := by rw [← hn.l2]; exact Nat.lt_of_le_of_lt (Nat.zero_le _) hmm.l2
  have u3 : sc < n3 := by rw [← hn.l3]; exact hf.l3
  have u4 : 0 < n4 := by rw [← hn.l4]; exact Nat.lt_of_le_of_lt (Nat.zero_le _) hmm.l4
  have u5 : 0 < n5 := by rw [← hn.l5]; exact Nat.lt_of_le_of_lt (Nat.zero_le _) hmm.l5
  have u7 : 0 < n7 := by rw [← hn.l7]; exact hf.some
  have u9 : 0 < n9 := by rw [← hn.l9]; exact Nat.lt_of_le_of_lt (Nat.zero_le _) hmm.l9
  have u10 : n9 = n10 := by rw [← hn.l9, ← hn.l10]; exact hf.two
  have uw : 0 < wd := Nat.lt_of_le_of_lt (Nat.zero_le _) hmm.kw
  have uw' : wd ≤ 65536 := hf.wl
  subst u10
  obtain ⟨b0, o0, e0, _, _⟩ := R0.out.2 (by omega)
  subst e0
  obtain ⟨b1, o1, e1, _, _⟩ := R1.out.2 (by omega)
  subst e1
  obtain ⟨b2, o2, e2, _, _⟩ := R2.out.2 (by omega)
  subst e2
  obtain ⟨b3, o3, e3, _, _⟩ := R3.out.2 (by omega)
  subst e3
  obtain ⟨b4, o4, e4, _, _⟩ := R4.out.2 (by omega)
  subst e4
  obtain ⟨b5, o5, e5, _, _⟩ := R5.out.2 (by omega)
  subst e5
  obtain ⟨b7, o7, e7, _, _⟩ := R7.out.2 (by omega)
  subst e7
  obtain ⟨b9, o9, e9, _, _⟩ := R9.out.2 (by omega)
  subst e9
  obtain ⟨b10, o10, e10, _, _⟩ := R10.out.2 (by omega)
  subst e10
  have T0 : Hid (Below w2.heap.size w2 w2) := hid (Below.refl _ _)
  obtain ⟨g0, W1, hg0, mk0, cp0, B0, L0, Z0⟩ := mk_copy29 w2 (some ⟨b0, o0, none⟩) n0 c0 L.scope (by omega) ((R0.out.below HB2.out).below T0.out)
  have T1 : Hid (Below w2.heap.size w2 W1) := hid (T0.out.trans (L0.out.mono (by rw [hg0.out]; exact T0.out.size)))
  obtain ⟨g1, W2, hg1, mk1, cp1, B1, L1, Z1⟩ := mk_copy29 W1 (some ⟨b1, o1, none⟩) n1 c1 L.stream (by omega) ((R1.out.below HB2.out).below T1.out)
  have T2 : Hid (Below w2.heap.size w2 W2) := hid (T1.out.trans (L1.out.mono (by rw [hg1.out]; exact T1.out.size)))
  obtain ⟨g2, W3, hg2, mk2, cp2, B2, L2, Z2⟩ := mk_copy29 W2 (some ⟨b2, o2, none⟩) n2 c2 L.seq (by omega) ((R2.out.below HB2.out).below T2.out)
  have T3 : Hid (Below w2.heap.size w2 W3) := hid (T2.out.trans (L2.out.mono (by rw [hg2.out]; exact T2.out.size)))
  obtain ⟨g3, W4, hg3, mk3, cp3, B3, L3, Z3⟩ := mk_copy29 W3 (some ⟨b3, o3, none⟩) n3 c3 L.width (by omega) ((R3.out.below HB2.out).below T3.out)
  have T4 : Hid (Below w2.heap.size w2 W4) := hid (T3.out.trans (L3.out.mono (by rw [hg3.out]; exact T3.out.size)))
  obtain ⟨g4, W5, hg4, mk4, cp4, B4, L4, Z4⟩ := mk_copy29 W4 (some ⟨b4, o4, none⟩) n4 c4 L.slot (by omega) ((R4.out.below HB2.out).below T4.out)
  have T5 : Hid (Below w2.heap.size w2 W5) := hid (T4.out.trans (L4.out.mono (by rw [hg4.out]; exact T4.out.size)))
  obtain ⟨g7, W6, hg7, mk7, cp7, B7, L7, Z7⟩ := mk_copy29 W5 (some ⟨b7, o7, none⟩) n7 c7 L.members (by omega) ((R7.out.below HB2.out).below T5.out)
  have T6 : Hid (Below w2.heap.size w2 W6) := hid (T5.out.trans (L7.out.mono (by rw [hg7.out]; exact T5.out.size)))
  obtain ⟨g8, W7, hg8, mk8, cp8, B8, L8, Z8⟩ := mk_copy29 W6 (some x8) n8 c8 L.preds (by omega) ((R8.out.below HB2.out).below T6.out)
  have T7 : Hid (Below w2.heap.size w2 W7) := hid (T6.out.trans (L8.out.mono (by rw [hg8.out]; exact T6.out.size)))
  obtain ⟨g9, W8, hg9, mk9, cp9, B9, L9, Z9⟩ := mk_copy29 W7 (some ⟨b9, o9, none⟩) n9 c9 L.froms (by omega) ((R9.out.below HB2.out).below T7.out)
  have T8 : Hid (Below w2.heap.size w2 W8) := hid (T7.out.trans (L9.out.mono (by rw [hg9.out]; exact T7.out.size)))
  obtain ⟨g10, W9, hg10, mk10, cp10, B10, L10, Z10⟩ := mk_copy29 W8 (some ⟨b10, o10, none⟩) n9 c10 L.tos (by omega) ((R10.out.below HB2.out).below T8.out)
  have T9 : Hid (Below w2.heap.size w2 W9) := hid (T8.out.trans (L10.out.mono (by rw [hg10.out]; exact T8.out.size)))
  have HG : Hid (g0 + 1 = g1 ∧ g1 + 1 = g2 ∧ g2 + 1 = g3 ∧ g3 + 1 = g4 ∧ g4 + 1 = g7 ∧ g7 + 1 = g8 ∧ g8 + 1 = g9 ∧ g9 + 1 = g10 ∧ g10 + 1 = W9.heap.size) := hid ⟨by rw [hg1.out, Z0.out], by rw [hg2.out, Z1.out], by rw [hg3.out, Z2.out], by rw [hg4.out, Z3.out], by rw [hg7.out, Z4.out], by rw [hg8.out, Z7.out], by rw [hg9.out, Z8.out], by rw [hg10.out, Z9.out], by rw [Z10.out]⟩
  have D0 := hid (((((((((B0.out.below L1.out (by have := HG.out; omega)).below L2.out (by have := HG.out; omega)).below L3.out (by have := HG.out; omega)).below L4.out (by have := HG.out; omega)).below L7.out (by have := HG.out; omega)).below L8.out (by have := HG.out; omega)).below L9.out (by have := HG.out; omega)).below L10.out (by have := HG.out; omega)))
  have D1 := hid ((((((((B1.out.below L2.out (by have := HG.out; omega)).below L3.out (by have := HG.out; omega)).below L4.out (by have := HG.out; omega)).below L7.out (by have := HG.out; omega)).below L8.out (by have := HG.out; omega)).below L9.out (by have := HG.out; omega)).below L10.out (by have := HG.out; omega)))
  have D2 := hid (((((((B2.out.below L3.out (by have := HG.out; omega)).below L4.out (by have := HG.out; omega)).below L7.out (by have := HG.out; omega)).below L8.out (by have := HG.out; omega)).below L9.out (by have := HG.out; omega)).below L10.out (by have := HG.out; omega)))
  have D3 := hid ((((((B3.out.below L4.out (by have := HG.out; omega)).below L7.out (by have := HG.out; omega)).below L8.out (by have := HG.out; omega)).below L9.out (by have := HG.out; omega)).below L10.out (by have := HG.out; omega)))
  have D4 := hid (((((B4.out.below L7.out (by have := HG.out; omega)).below L8.out (by have := HG.out; omega)).below L9.out (by have := HG.out; omega)).below L10.out (by have := HG.out; omega)))
  have D7 := hid ((((B7.out.below L8.out (by have := HG.out; omega)).below L9.out (by have := HG.out; omega)).below L10.out (by have := HG.out; omega)))
  have D8 := hid (((B8.out.below L9.out (by have := HG.out; omega)).below L10.out (by have := HG.out; omega)))
  have D9 := hid ((B9.out.below L10.out (by have := HG.out; omega)))
  have D10 := hid (B10.out)
  clear B0 L0 B1 L1 B2 L2 B3 L3 B4 L4 B7 L7 B8 L8 B9 L9 B10 L10
  have hneq : ∀ (w : World) (a : Option Addr) (n c n' c' : Nat), (binOp .neq 29 (.slice a n c) (.slice none n' c')).run Try.prog w = .ok (.bool (!a.isNone)) w := fun w a n c n' c' => run_neq_slice_nil_any w 29 21 a n c n' c' Try.underlying29
  have cm0 : W9.cell? ⟨g7, 0, none⟩ = some (.int .i32 (m0 : Int)) := by rw [D7.out.int hf.some, hf.em0]
  have cs0 : W9.cell? ⟨g0, m0, none⟩ = some (.int .i32 (sc : Int)) := by rw [D0.out.int hf.l0, hf.esc]
  have cw0 : W9.cell? ⟨g3, sc, none⟩ = some (.int .i32 (wd : Int)) := by rw [D3.out.int hf.l3, hf.ewd]
  obtain ⟨gM, hgM⟩ : ∃ g, Hid (g = W9.heap.size) := ⟨_, rfl⟩
  have hmkM := make32 n5 (by omega) W9
  rw [← hgM.out] at hmkM
  have j0 : (m0 : Int) < (n0 : Int) := by omega
  have j3 : (sc : Int) < (n3 : Int) := by omega
  have j7 : (0 : Int) < (n7 : Int) := by omega
  have jw : (wd : Int) ≤ 65536 := by omega
  have HF := hid hf
  have HN := hid hn
  clear hf hn hmm hss
  go_wp2
  clear hneq hmkM cm0 cs0 cw0 mk0 cp0 mk1 cp1 mk2 cp2 mk3 cp3 mk4 cp4 mk7 cp7 mk8 cp8 mk9 cp9 mk10 cp10
  have hg7M : g7 < gM := by have := HG.out; have := hgM.out; omega
  go_loopw [35] (fun i wr => ∃ k : Nat, k ≤ n7 ∧ i = .int .i64 k ∧ Hid (Blk wr gM (memB (L.members.take k) n5) 4) ∧ Hid (Below gM W9 wr)) (fun i _ => n7 - (intOf i).toNat)
  case atStart => exact ⟨0, Nat.zero_le _, rfl, hid (by rw [hgM.out, List.take_zero, memB_nil]; exact Blk.new _ _ _), hid ((Below.refl _ _).alloc (by rw [hgM.out]; exact Nat.le_refl _) _)⟩
  case round =>
    obtain ⟨k, hk, rfl, hblk, hbel⟩ := hrel
    by_cases hlt : k < n7
    · have hlt' : (k : Int) < (n7 : Int) := by omega
      have hmem := HF.out.mem' (i := k) (by rw [HN.out.l7]; exact hlt)
      obtain ⟨m, hm⟩ : ∃ m, Hid (mOf L k = m) := ⟨_, rfl⟩
      rw [hm.out] at hmem
      have hm5 : m < n5 := by rw [← HN.out.l5]; exact hmem.l5
      have hm5' : (m : Int) < (n5 : Int) := by omega
      have cz : wr.cell? ⟨g7, k, none⟩ = some (.int .i32 (m : Int)) := by rw [hbel.out.cell (p := ⟨g7, k, none⟩) hg7M, D7.out.int (by rw [HN.out.l7]; exact hlt), hmem.em]
      have cB : wr.cell? ⟨gM, m, none⟩ = some (.bool (decide ((m : Int) ∈ L.members.take k))) := by rw [hblk.out.cell]; exact memB_get _ _ _ hm5
      have fB := hblk.out.frozen m
      generalize decide ((m : Int) ∈ L.members.take k) = bb at cB
      have EM := hid hmem.em
      clear hmem
      go_wp2
      go_roundw
      case rel =>
        refine ⟨k + 1, by omega, by go_num, hid ?_, hid (hbel.out.setCell (Nat.le_refl _) _)⟩
        rw [take_mem_succ _ _ (by rw [HN.out.l7]; exact hlt), EM.out, ← memB_set _ _ _ hm5]
        exact hblk.out.set m _
      case measure => simp [intOf]; omega
    · have ek : n7 = k := by omega
      subst ek
      obtain ⟨X1, hX1⟩ : ∃ X, X = wr := ⟨_, rfl⟩
      subst hX1
      have hfull : L.members.take n7 = L.members := List.take_of_length_le (by rw [HN.out.l7]; exact Nat.le_refl _)
      rw [hfull] at hblk
      clear hfull hlt hk
      have TX1 : Hid (Below w2.heap.size w2 X1) := hid (T9.out.trans (hbel.out.mono (by rw [hgM.out]; exact T9.out.size)))
      obtain ⟨gr, X2, hgr, mk5, cp5, B5, L5, Z5⟩ := mk_copy30 X1 (some ⟨b5, o5, none⟩) n5 c5 L.row (by omega) ((R5.out.below HB2.out).below TX1.out)
      have TX2 : Hid (Below w2.heap.size w2 X2) := hid (TX1.out.trans (L5.out.mono (by rw [hgr.out]; exact TX1.out.size)))
      obtain ⟨gR, X3, hgR, mk6, cp6, B6, L6, Z6⟩ := mk_copyR X2 a6 n6 c6 wd L.rows (by omega) (by omega) ((R6.out.below HB2.out).below TX2.out)
      have TX3 : Hid (Below w2.heap.size w2 X3) := hid (TX2.out.trans (L6.out.mono (by rw [hgR.out]; exact TX2.out.size)))
      have HS : Hid (gM < gr ∧ gr + 1 = gR ∧ gR + 1 = X3.heap.size ∧ gM = W9.heap.size ∧ w2.heap.size ≤ g0) := hid ⟨by rw [hgr.out]; exact hblk.out.lt, by rw [hgR.out, Z5.out], by rw [Z6.out], hgM.out, by rw [hg0.out]; exact Nat.le_refl _⟩
      have E0 := hid (((D0.out.below hbel.out (by have := HS.out; have := HG.out; omega)).below L5.out (by have := HS.out; have := HG.out; omega)).below L6.out (by have := HS.out; have := HG.out; omega))
      have E1 := hid (((D1.out.below hbel.out (by have := HS.out; have := HG.out; omega)).below L5.out (by have := HS.out; have := HG.out; omega)).below L6.out (by have := HS.out; have := HG.out; omega))
      have E2 := hid (((D2.out.below hbel.out (by have := HS.out; have := HG.out; omega)).below L5.out (by have := HS.out; have := HG.out; omega)).below L6.out (by have := HS.out; have := HG.out; omega))
      have E3 := hid (((D3.out.below hbel.out (by have := HS.out; have := HG.out; omega)).below L5.out (by have := HS.out; have := HG.out; omega)).below L6.out (by have := HS.out; have := HG.out; omega))
      have E4 := hid (((D4.out.below hbel.out (by have := HS.out; have := HG.out; omega)).below L5.out (by have := HS.out; have := HG.out; omega)).below L6.out (by have := HS.out; have := HG.out; omega))
      have E7 := hid (((D7.out.below hbel.out (by have := HS.out; have := HG.out; omega)).below L5.out (by have := HS.out; have := HG.out; omega)).below L6.out (by have := HS.out; have := HG.out; omega))
      have E8 := hid (((D8.out.below hbel.out (by have := HS.out; have := HG.out; omega)).below L5.out (by have := HS.out; have := HG.out; omega)).below L6.out (by have := HS.out; have := HG.out; omega))
      have E9 := hid (((D9.out.below hbel.out (by have := HS.out; have := HG.out; omega)).below L5.out (by have := HS.out; have := HG.out; omega)).below L6.out (by have := HS.out; have := HG.out; omega))
      have E10 := hid (((D10.out.below hbel.out (by have := HS.out; have := HG.out; omega)).below L5.out (by have := HS.out; have := HG.out; omega)).below L6.out (by have := HS.out; have := HG.out; omega))
      have EM3 := hid ((hblk.out.below L5.out (by have := HS.out; omega)).below L6.out (by have := HS.out; omega))
      have Er3 := hid (B5.out.below L6.out (by have := HS.out; omega))
      have HLAY : Hid (Lay0 L X3 g0 g1 g2 g3 g4 g7 g9 g10 gr gR (some ⟨g8, 0, none⟩) n8) := hid ⟨E0.out, E1.out, E2.out, E3.out, E4.out, E7.out, E9.out, E10.out, fun _ => ⟨g8, 0, rfl, by have := HS.out; have := HG.out; omega, E8.out.lt, fun i hi => by rw [Nat.zero_add, E8.out.int (by rw [HN.out.l8]; exact hi)]⟩, by have := HS.out; have := HG.out; omega, by have := HS.out; have := HG.out; omega, by have := HS.out; have := HG.out; omega, by have := HS.out; have := HG.out; omega, by have := HS.out; have := HG.out; omega, by have := HS.out; have := HG.out; omega, by have := HS.out; omega⟩
      have ZADD := hid (zadd_any L hL wd sc m0 g0 g1 g2 g3 g4 g7 g9 g10 gr gR n0 n1 n2 n3 n4 n5 n6 n7 n8 n9 n9 (some ⟨g8, 0, none⟩) X3 HF.out HN.out HLAY.out Er3.out B6.out)
      go_wp2_with fail
      refine ZADD.out.mono ?_
      clear ZADD mk5 cp5 mk6 cp6
      rintro e V0 ⟨R, rfl, hlub, hrow, hrows, hkeep⟩
      have HLUB := hid hlub
      have GR := hid hrow
      have GRS := hid hrows
      have HKEEP := hid hkeep
      clear hlub hrow hrows hkeep
      have hw2 := HB2.out.size
      have BELV : Hid (Below w.heap.size w V0) := hid ((HB2.out.trans (TX3.out.mono hw2)).trans (HKEEP.out.to_below (Nat.le_trans hw2 TX3.out.size) (fun k hk => by have := HS.out; have := HG.out; unfold Own2 at hk; omega)))
      have VV0 := hid (E0.out.keeps HKEEP.out (by have := HS.out; have := HG.out; unfold Own2; omega))
      have VV1 := hid (E1.out.keeps HKEEP.out (by have := HS.out; have := HG.out; unfold Own2; omega))
      have V2 := hid (E2.out.keeps HKEEP.out (by have := HS.out; have := HG.out; unfold Own2; omega))
      have V3 := hid (E3.out.keeps HKEEP.out (by have := HS.out; have := HG.out; unfold Own2; omega))
      have V4 := hid (E4.out.keeps HKEEP.out (by have := HS.out; have := HG.out; unfold Own2; omega))
      have V7 := hid (E7.out.keeps HKEEP.out (by have := HS.out; have := HG.out; unfold Own2; omega))
      have V8 := hid (E8.out.keeps HKEEP.out (by have := HS.out; have := HG.out; unfold Own2; omega))
      have V9 := hid (E9.out.keeps HKEEP.out (by have := HS.out; have := HG.out; unfold Own2; omega))
      have V10 := hid (E10.out.keeps HKEEP.out (by have := HS.out; have := HG.out; unfold Own2; omega))
      have VM := hid (EM3.out.keeps HKEEP.out (by have := HS.out; unfold Own2; omega))
      have hV0 : gR < V0.heap.size := GRS.out.lt
      have hgRs : gr < V0.heap.size := GR.out.lt
      have hgMs : gM < V0.heap.size := VM.out.lt
      clear EM3 Er3 HLAY B5 B6 L5 L6 E0 E1 E2 E3 E4 E7 E8 E9 E10
      have hRl := HLUB.out.grown.len
      have hrl := HN.out.l6
      go_wp2
      go_loop [40] (fun i => ∃ k : Nat, k ≤ n5 ∧ i = .int .i64 k) (fun i => n5 - (intOf i).toNat)
      case atStart => exact ⟨0, Nat.zero_le _, rfl⟩
      case round =>
        obtain ⟨k, hk, rfl⟩ := hrel
        by_cases hlt : k < n5
        · have hlt' : (k : Int) < (n5 : Int) := by omega
          obtain ⟨rv, hrv⟩ : ∃ z, Hid (L.row.getD k 0 = z) := ⟨_, rfl⟩
          have ca : V0.cell? ⟨b5, o5 + k, none⟩ = some (.int .i64 rv) := by rw [row_at (R5.out.below BELV.out) hlt, hrv.out]
          have cM : V0.cell? ⟨gM, k, none⟩ = some (.bool (decide ((k : Int) ∈ L.members))) := by rw [VM.out.cell]; exact memB_get _ _ _ hlt
          have cg : V0.cell? ⟨gr, k, none⟩ = some (.int .i64 (if (k : Int) ∈ L.members then (n6 : Int) else rv)) := by rw [GR.out.int (by rw [rowSet_length, HN.out.l5]; exact hlt), rowSet_getD _ _ _ _ (by rw [HN.out.l5]; exact hlt), hrv.out]
          by_cases hM : (k : Int) ∈ L.members
          · rw [decide_eq_true hM] at cM
            rw [if_pos hM] at cg
            clear hM
            go_wp2
            go_round
            case rel => exact ⟨k + 1, by omega, by go_num⟩
            case measure => simp [intOf]; omega
          · rw [decide_eq_false hM] at cM
            rw [if_neg hM] at cg
            clear hM
            go_wp2
            go_round
            case rel => exact ⟨k + 1, by omega, by go_num⟩
            case measure => simp [intOf]; omega
        · have ek : n5 = k := by omega
          subst ek
          clear hlt hk
          go_wp2
          go_loopw [42] (fun i wr => ∃ k : Nat, k ≤ n6 ∧ i = .int .i64 k ∧ Hid (Below V0.heap.size V0 wr)) (fun i _ => n6 - (intOf i).toNat)
          case atStart => exact ⟨0, Nat.zero_le _, rfl, hid (Below.refl _ _)⟩
          case round =>
            obtain ⟨k, hk, rfl, hbv⟩ := hrel
            by_cases hlt : k < n6
            · have hlt' : (k : Int) < (n6 : Int) := by omega
              have hlt'' : (k : Int) < ((n6 + wd : Nat) : Int) := by omega
              obtain ⟨b6, o6, e6, hb6, hc6⟩ := (R6.out.below BELV.out).2 (by omega)
              subst e6
              obtain ⟨rv, hrv⟩ : ∃ z, Hid (L.rows.getD k 0 = z) := ⟨_, rfl⟩
              have ca : wr.cell? ⟨b6, o6 + k, none⟩ = some (.int .i32 rv) := by rw [hbv.out.cell (p := ⟨b6, o6 + k, none⟩) hb6, hc6 k hlt, hrv.out]
              have cg : wr.cell? ⟨gR, k, none⟩ = some (.int .i32 rv) := by rw [hbv.out.cell (p := ⟨gR, k, none⟩) hV0, GRS.out.int (by rw [List.length_append]; omega), getD_append_left' _ _ _ (by omega), hrv.out]
              clear hc6
              go_wp2
              go_quiet (fail)
              go_wp2
              go_roundw
              case rel => exact ⟨k + 1, by omega, by go_num, hid (below_drewN hbv.out _)⟩
              case measure => simp [intOf]; omega
            · have ek : n6 = k := by omega
              subst ek
              clear hlt hk
              obtain ⟨V1, hV1⟩ : ∃ X, X = wr := ⟨_, rfl⟩
              subst hV1
              obtain ⟨gH, hgH⟩ : ∃ g, Hid (g = V1.heap.size) := ⟨_, rfl⟩
              have hmkH := make32 wd (by omega) V1
              rw [← hgH.out] at hmkH
              have hVg : V0.heap.size ≤ gH := by rw [hgH.out]; exact hbv.out.size
              have cR : ∀ (wx : World), Below gH V1 wx → ∀ k, k < wd → wx.cell? ⟨gR, n6 + k, none⟩ = some (.int .i32 (R.getD k 0)) := fun wx hx k hk => by
                rw [hx.cell (p := ⟨gR, n6 + k, none⟩) (show gR < gH by omega), hbv.out.cell (p := ⟨gR, n6 + k, none⟩) hV0, GRS.out.int (by rw [List.length_append]; omega), ← hrl, getD_append_right']
              have CR := hid cR
              clear cR
              go_wp2
              clear hmkH
              go_loopw [44] (fun i wr => ∃ (k : Nat) (H : List Bool), k ≤ wd ∧ i = .int .i64 k ∧ Hid (H.length = wd) ∧ Hid (Blk wr gH (bls H) 4) ∧ Hid (Below gH V1 wr) ∧ Hid (∀ x, x < k → HitAt R H x 0)) (fun i _ => wd - (intOf i).toNat)
              case atStart => exact ⟨0, List.replicate wd false, Nat.zero_le _, rfl, hid (by simp), hid (by rw [← bls_false, hgH.out]; exact Blk.new _ _ _), hid ((Below.refl _ _).alloc (by rw [hgH.out]; exact Nat.le_refl _) _), hid (fun x hx => absurd hx (by omega))⟩
              case round =>
                obtain ⟨k, H, hk, rfl, hHl, hH, hbh, hhit⟩ := hrel
                by_cases hlt : k < wd
                · have hlt' : (k : Int) < (wd : Int) := by omega
                  have hlt2 : (n6 : Int) + (k : Int) < ((n6 + wd : Nat) : Int) := by omega
                  obtain ⟨rk, hrk⟩ : ∃ z, Hid (R.getD k 0 = z) := ⟨_, rfl⟩
                  have crk := CR.out wr hbh.out k hlt
                  rw [hrk.out] at crk
                  have hpos : 0 ≤ rk := by rw [← hrk.out]; exact HLUB.out.grown.pos k hlt
                  have chk : wr.cell? ⟨gH, k, none⟩ = some (.bool (H.getD k false)) := by rw [hH.out.cell]; exact bls_get _ _ (by rw [hHl.out]; exact hlt)
                  have fhk := hH.out.frozen k
                  generalize H.getD k false = hb0 at chk
                  by_cases hz : rk = 0
                  · have HZ := hid hz
                    have hz1 : (rk == 0) = true := by simpa using hz
                    clear hz
                    go_wp2
                    go_roundw
                    case rel =>
                      refine ⟨k + 1, H.set k true, by omega, by go_num, hid (by simp [hHl.out]), hid (by rw [← bls_set]; exact hH.out.set k _), hid (hbh.out.setCell (Nat.le_refl _) _), hid (fun x hx => ?_)⟩
                      by_cases e : x = k
                      · subst e; exact HitAt.new (by rw [hHl.out]; exact hlt) 0
                      · exact HitAt.up (by rw [hHl.out]; exact hlt) _ _ (hhit.out x (by omega))
                    case measure => simp [intOf]; omega
                  · have hz1 : (rk == 0) = false := by simpa using hz
                    have HZ := hid hz
                    clear hz
                    go_wp2
                    go_roundw
                    case rel =>
                      refine ⟨k + 1, H, by omega, by go_num, hHl, hH, hbh, hid (fun x hx => ?_)⟩
                      by_cases e : x = k
                      · subst e; exact fun e2 => absurd (hrk.out.symm.trans e2) HZ.out
                      · exact hhit.out x (by omega)
                    case measure => simp [intOf]; omega
                · have ek : wd = k := by omega
                  subst ek
                  clear hlt hk
                  have CC : Hid (∀ (wx : World), Below gH V1 wx → ∀ g j, g < V0.heap.size → wx.cell? ⟨g, j, none⟩ = V0.cell? ⟨g, j, none⟩) := hid (fun wx hx g j hg => by
                    rw [hx.cell (p := ⟨g, j, none⟩) (show g < gH by omega), hbv.out.cell (p := ⟨g, j, none⟩) hg])
                  go_wp2
                  go_loopw [46] (fun i wr => ∃ (k : Nat) (H : List Bool), k ≤ n7 ∧ i = .int .i64 k ∧ Hid (H.length = wd) ∧ Hid (Blk wr gH (bls H) 4) ∧ Hid (Below gH V1 wr) ∧ Hid (∀ x, x < wd → HitAt R H x 0) ∧ Hid (DoneTo L wd (HitAt R H) k)) (fun i _ => n7 - (intOf i).toNat)
                  case atStart => exact ⟨0, H, Nat.zero_le _, rfl, hHl, hH, hbh, hhit, hid (DoneTo.zero _ _ _)⟩
                  case round =>
                    clear hHl hH hbh hhit
                    obtain ⟨k, H, hk, rfl, hHl, hH, hbh, hzero, hdone⟩ := hrel
                    by_cases hlt : k < n7
                    · have hlt' : (k : Int) < (n7 : Int) := by omega
                      have hlk : k < L.members.length := by rw [HN.out.l7]; exact hlt
                      have hmem := HF.out.mem' hlk
                      have hspan := HF.out.span' hlk
                      obtain ⟨m, hm⟩ : ∃ m, Hid (mOf L k = m) := ⟨_, rfl⟩
                      obtain ⟨st, hst⟩ : ∃ m, Hid (sOf L k = m) := ⟨_, rfl⟩
                      obtain ⟨kk, hkk⟩ : ∃ m, Hid (kOf L k = m) := ⟨_, rfl⟩
                      obtain ⟨f, hf⟩ : ∃ m, Hid (fOf L k = m) := ⟨_, rfl⟩
                      obtain ⟨t, ht⟩ : ∃ m, Hid (tOf L k = m) := ⟨_, rfl⟩
                      rw [hm.out, hst.out, hkk.out] at hmem
                      rw [hm.out, hf.out, ht.out] at hspan
                      have bm1 : m < n1 := by rw [← HN.out.l1]; exact hmem.l1
                      have bm2 : m < n2 := by rw [← HN.out.l2]; exact hmem.l2
                      have bm9 : m < n9 := by rw [← HN.out.l9]; exact hmem.l9
                      have bst : st < n4 := by rw [← HN.out.l4]; exact hmem.l4
                      have bkk : kk < wd := hmem.kw
                      have bft : f ≤ t := hspan.ft
                      have btl : t ≤ n8 := by rw [← HN.out.l8]; exact hspan.tl
                      have cz : wr.cell? ⟨g7, k, none⟩ = some (.int .i32 (m : Int)) := by rw [CC.out wr hbh.out g7 k V7.out.lt, V7.out.int hlk, hmem.em]
                      have cst : wr.cell? ⟨g1, m, none⟩ = some (.int .i32 (st : Int)) := by rw [CC.out wr hbh.out g1 m VV1.out.lt, VV1.out.int hmem.l1, hmem.est]
                      have ckk : wr.cell? ⟨g4, st, none⟩ = some (.int .i32 (kk : Int)) := by rw [CC.out wr hbh.out g4 st V4.out.lt, V4.out.int hmem.l4, hmem.ek]
                      obtain ⟨sq, hsq⟩ : ∃ z, Hid (L.seq.getD m 0 = z) := ⟨_, rfl⟩
                      have csq : wr.cell? ⟨g2, m, none⟩ = some (.int .i32 sq) := by rw [CC.out wr hbh.out g2 m V2.out.lt, V2.out.int hmem.l2, hsq.out]
                      obtain ⟨rk, hrk⟩ : ∃ z, Hid (R.getD kk 0 = z) := ⟨_, rfl⟩
                      have crk := CR.out wr hbh.out kk bkk
                      rw [hrk.out] at crk
                      have cf : wr.cell? ⟨g9, m, none⟩ = some (.int .i32 (f : Int)) := by rw [CC.out wr hbh.out g9 m V9.out.lt, V9.out.int hmem.l9, hspan.ef]
                      have HCT : Hid (V0.cell? ⟨g10, m, none⟩ = some (.int .i32 (t : Int))) := hid (by rw [V10.out.int (by rw [HN.out.l10]; exact bm9), hspan.et])
                      have hle : sq ≤ rk := by
                        rw [← hsq.out, ← hrk.out, ← hkk.out, ← hm.out]
                        exact (HLUB.out.done k hlk).1
                      have chk : wr.cell? ⟨gH, kk, none⟩ = some (.bool (H.getD kk false)) := by rw [hH.out.cell]; exact bls_get _ _ (by rw [hHl.out]; exact bkk)
                      have fhk := hH.out.frozen kk
                      generalize H.getD kk false = hb0 at chk
                      have ib1 : (m : Int) < (n1 : Int) := by omega
                      have ib2 : (m : Int) < (n2 : Int) := by omega
                      have ib9 : (m : Int) < (n9 : Int) := by omega
                      have ibs : (st : Int) < (n4 : Int) := by omega
                      have ibk : (kk : Int) < (wd : Int) := by omega
                      have ibn : (n6 : Int) + (kk : Int) < ((n6 + wd : Nat) : Int) := by omega
                      have hg9H : g9 < gH := by have := V9.out.lt; omega
                      have HLK := hid hlk
                      clear hmem hspan hlk
                      by_cases hz : sq = rk
                      · have hz1 : (sq == rk) = true := by simpa using hz
                        clear hz
                        go_wp2
                        clear cz cst ckk csq crk cf chk fhk hz1
                        go_loopw [50] (fun i wr => ∃ (q : Nat) (H : List Bool), f ≤ q ∧ q ≤ t ∧ i = .int .i32 q ∧ Hid (H.length = wd) ∧ Hid (Blk wr gH (bls H) 4) ∧ Hid (Below gH V1 wr) ∧ Hid (∀ x, x < wd → HitAt R H x 0) ∧ Hid (DoneTo L wd (HitAt R H) k) ∧ Hid (HitAt R H kk sq) ∧ Hid (PredTo L wd (HitAt R H) f q)) (fun i _ => t - (intOf i).toNat)
                        case atStart =>
                          have HLJ : kk < H.length := by rw [hHl.out]; exact bkk
                          exact ⟨f, H.set kk true, Nat.le_refl _, bft, rfl, hid (by simp [hHl.out]), hid (by rw [← bls_set]; exact hH.out.set kk _), hid (hbh.out.setCell (Nat.le_refl _) _), hid (fun x hx => HitAt.up HLJ _ _ (hzero.out x hx)), hid (hdone.out.mono (HitAt.up HLJ)), hid (HitAt.new HLJ _), hid (PredTo.zero _ _ _ _)⟩
                        case round =>
                          clear hHl hH hbh hzero hdone
                          obtain ⟨q, H1, hq0, hq, rfl, hHl, hH, hbh, hzero, hdone, hown, hpred⟩ := hrel
                          have ct : wr.cell? ⟨g10, m, none⟩ = some (.int .i32 (t : Int)) := by rw [CC.out wr hbh.out g10 m V10.out.lt]; exact HCT.out
                          by_cases hqt : q < t
                          · have hqt' : (q : Int) < (t : Int) := by omega
                            have hpok := HF.out.pred' (q := q) HLK.out (by rw [hf.out]; exact hq0) (by rw [ht.out]; exact hqt)
                            obtain ⟨pr, hpr⟩ : ∃ m, Hid (pOf L q = m) := ⟨_, rfl⟩
                            have bp5 : pr < n5 := by rw [← HN.out.l5, ← hpr.out]; exact hpok.l5
                            have bp5' : (pr : Int) < (n5 : Int) := by omega
                            have hq8 : q < n8 := by omega
                            have hq8' : (q : Int) < (n8 : Int) := by omega
                            have cpr : wr.cell? ⟨g8, q, none⟩ = some (.int .i32 (pr : Int)) := by rw [CC.out wr hbh.out g8 q V8.out.lt, V8.out.int (by rw [HN.out.l8]; exact hq8), hpok.epr, hpr.out]
                            have cM : wr.cell? ⟨gM, pr, none⟩ = some (.bool (decide ((pr : Int) ∈ L.members))) := by rw [CC.out wr hbh.out gM pr hgMs, VM.out.cell]; exact memB_get _ _ _ bp5
                            by_cases hM : IsM L q
                            · have hM' : (pr : Int) ∈ L.members := by rw [← hpr.out]; exact hM
                              rw [decide_eq_true hM'] at cM
                              have HPT : Hid (PredTo L wd (HitAt R H1) f (q + 1)) := hid (hpred.out.succ (fun h => absurd hM h))
                              clear hM hM' hpok
                              go_wp2
                              go_roundw
                              case rel => exact ⟨q + 1, H1, by omega, by omega, by go_num, hHl, hH, hbh, hzero, hdone, hown, HPT⟩
                              case measure => simp [intOf]; omega
                            · have hM' : ¬ (pr : Int) ∈ L.members := by rw [← hpr.out]; exact hM
                              rw [decide_eq_false hM'] at cM
                              have hfar := hpok.far hM
                              obtain ⟨r, hr⟩ : ∃ m, Hid (rOf L q = m) := ⟨_, rfl⟩
                              rw [hpr.out, hr.out, hrl] at hfar
                              have hr6 : r + wd ≤ n6 := hfar.2
                              have cb : wr.cell? ⟨b5, o5 + pr, none⟩ = some (.int .i64 (r : Int)) := by rw [CC.out wr hbh.out b5 (o5 + pr) (by have := BELV.out.size; omega), row_at (R5.out.below BELV.out) bp5, hfar.1]
                              have HM := hid hM
                              clear hM hM' hpok hfar
                              go_wp2
                              clear cb cM cpr
                              go_loopw [53] (fun i wr => ∃ (j : Nat) (H : List Bool), j ≤ wd ∧ i = .int .i64 j ∧ Hid (H.length = wd) ∧ Hid (Blk wr gH (bls H) 4) ∧ Hid (Below gH V1 wr) ∧ Hid (∀ x, x < wd → HitAt R H x 0) ∧ Hid (DoneTo L wd (HitAt R H) k) ∧ Hid (HitAt R H kk sq) ∧ Hid (PredTo L wd (HitAt R H) f q) ∧ Hid (∀ x, x < j → HitAt R H x (L.rows.getD (r + x) 0))) (fun i _ => wd - (intOf i).toNat)
                              case atStart => exact ⟨0, H1, Nat.zero_le _, rfl, hHl, hH, hbh, hzero, hdone, hown, hpred, hid (fun x hx => absurd hx (by omega))⟩
                              case round =>
                                clear hHl hH hbh hzero hdone hown hpred ct
                                obtain ⟨j, H2, hj, rfl, hHl, hH, hbh, hzero, hdone, hown, hpred, hpart⟩ := hrel
                                by_cases hjw : j < wd
                                · have hjw' : (j : Int) < (wd : Int) := by omega
                                  have hrj' : (r : Int) + (j : Int) < (n6 : Int) := by omega
                                  have hnj' : (n6 : Int) + (j : Int) < ((n6 + wd : Nat) : Int) := by omega
                                  obtain ⟨b6, o6, e6, hb6, hc6⟩ := (R6.out.below BELV.out).2 (by omega)
                                  subst e6
                                  obtain ⟨cv, hcv⟩ : ∃ z, Hid (L.rows.getD (r + j) 0 = z) := ⟨_, rfl⟩
                                  have ccv : wr.cell? ⟨b6, o6 + (r + j), none⟩ = some (.int .i32 cv) := by rw [CC.out wr hbh.out b6 (o6 + (r + j)) hb6, hc6 (r + j) (by omega), hcv.out]
                                  clear hc6
                                  obtain ⟨uj, huj⟩ : ∃ z, Hid (R.getD j 0 = z) := ⟨_, rfl⟩
                                  have cuj := CR.out wr hbh.out j hjw
                                  rw [huj.out] at cuj
                                  have hcu : cv ≤ uj := by
                                    rw [← hcv.out, ← huj.out, ← hr.out]
                                    exact (HLUB.out.done k HLK.out).2 q (by rw [hf.out]; exact hq0) (by rw [ht.out]; exact hqt) HM.out j hjw
                                  have chj : wr.cell? ⟨gH, j, none⟩ = some (.bool (H2.getD j false)) := by rw [hH.out.cell]; exact bls_get _ _ (by rw [hHl.out]; exact hjw)
                                  have fhj := hH.out.frozen j
                                  generalize H2.getD j false = hb1 at chj
                                  by_cases hz : cv = uj
                                  · have hz1 : (cv == uj) = true := by simpa using hz
                                    have HLJ : Hid (j < H2.length) := hid (by rw [hHl.out]; exact hjw)
                                    clear hz
                                    go_wp2
                                    go_roundw
                                    case rel =>
                                      refine ⟨j + 1, H2.set j true, by omega, by go_num, hid (by simp [hHl.out]), hid (by rw [← bls_set]; exact hH.out.set j _), hid (hbh.out.setCell (Nat.le_refl _) _), hid (fun x hx => HitAt.up HLJ.out _ _ (hzero.out x hx)), hid (hdone.out.mono (HitAt.up HLJ.out)), hid (HitAt.up HLJ.out _ _ hown.out), hid (hpred.out.mono (HitAt.up HLJ.out)), hid (fun x hx => ?_)⟩
                                      by_cases e : x = j
                                      · subst e; exact HitAt.new HLJ.out _
                                      · exact HitAt.up HLJ.out _ _ (hpart.out x (by omega))
                                    case measure => simp [intOf]; omega
                                  · have hz1 : (cv == uj) = false := by simpa using hz
                                    have HZ := hid hz
                                    clear hz
                                    go_wp2
                                    go_roundw
                                    case rel =>
                                      refine ⟨j + 1, H2, by omega, by go_num, hHl, hH, hbh, hzero, hdone, hown, hpred, hid (fun x hx => ?_)⟩
                                      by_cases e : x = j
                                      · subst e; exact fun e2 => absurd (hcv.out.symm.trans (e2.symm.trans huj.out)) HZ.out
                                      · exact hpart.out x (by omega)
                                    case measure => simp [intOf]; omega
                                · have ej : wd = j := by omega
                                  have HPT : Hid (PredTo L wd (HitAt R H2) f (q + 1)) := hid (hpred.out.succ (fun _ x hx => by rw [hr.out]; exact hpart.out x (by omega)))
                                  clear ej
                                  go_wp2
                                  go_roundw
                                  case rel => exact ⟨q + 1, H2, by omega, by omega, by go_num, hHl, hH, hbh, hzero, hdone, hown, HPT⟩
                                  case measure => simp [intOf]; omega
                          · have eqt : q = t := by omega
                            have HDN : Hid (DoneTo L wd (HitAt R H1) (k + 1)) := hid (hdone.out.succ (by rw [hkk.out, hm.out, hsq.out]; exact hown.out) (by rw [hf.out, ht.out, ← eqt]; exact hpred.out))
                            have hqt' : ¬ (q : Int) < (t : Int) := by omega
                            clear eqt
                            go_wp2
                            go_roundw
                            case rel => exact ⟨k + 1, H1, by omega, by go_num, hHl, hH, hbh, hzero, HDN⟩
                            case measure => simp [intOf]; omega
                      · have hz1 : (sq == rk) = false := by simpa using hz
                        have HZ : Hid (¬ sq = rk) := hid hz
                        clear hz
                        go_wp2
                        clear cz cst ckk csq crk cf chk fhk hz1
                        go_loopw [50] (fun i wr => ∃ (q : Nat) (H : List Bool), f ≤ q ∧ q ≤ t ∧ i = .int .i32 q ∧ Hid (H.length = wd) ∧ Hid (Blk wr gH (bls H) 4) ∧ Hid (Below gH V1 wr) ∧ Hid (∀ x, x < wd → HitAt R H x 0) ∧ Hid (DoneTo L wd (HitAt R H) k) ∧ Hid (HitAt R H kk sq) ∧ Hid (PredTo L wd (HitAt R H) f q)) (fun i _ => t - (intOf i).toNat)
                        case atStart =>
                          exact ⟨f, H, Nat.le_refl _, bft, rfl, hHl, hH, hbh, hzero, hdone, hid (fun e2 => absurd (e2.symm.trans hrk.out) HZ.out), hid (PredTo.zero _ _ _ _)⟩
                        case round =>
                          clear hHl hH hbh hzero hdone
                          obtain ⟨q, H1, hq0, hq, rfl, hHl, hH, hbh, hzero, hdone, hown, hpred⟩ := hrel
                          have ct : wr.cell? ⟨g10, m, none⟩ = some (.int .i32 (t : Int)) := by rw [CC.out wr hbh.out g10 m V10.out.lt]; exact HCT.out
                          by_cases hqt : q < t
                          · have hqt' : (q : Int) < (t : Int) := by omega
                            have hpok := HF.out.pred' (q := q) HLK.out (by rw [hf.out]; exact hq0) (by rw [ht.out]; exact hqt)
                            obtain ⟨pr, hpr⟩ : ∃ m, Hid (pOf L q = m) := ⟨_, rfl⟩
                            have bp5 : pr < n5 := by rw [← HN.out.l5, ← hpr.out]; exact hpok.l5
                            have bp5' : (pr : Int) < (n5 : Int) := by omega
                            have hq8 : q < n8 := by omega
                            have hq8' : (q : Int) < (n8 : Int) := by omega
                            have cpr : wr.cell? ⟨g8, q, none⟩ = some (.int .i32 (pr : Int)) := by rw [CC.out wr hbh.out g8 q V8.out.lt, V8.out.int (by rw [HN.out.l8]; exact hq8), hpok.epr, hpr.out]
                            have cM : wr.cell? ⟨gM, pr, none⟩ = some (.bool (decide ((pr : Int) ∈ L.members))) := by rw [CC.out wr hbh.out gM pr hgMs, VM.out.cell]; exact memB_get _ _ _ bp5
                            by_cases hM : IsM L q
                            · have hM' : (pr : Int) ∈ L.members := by rw [← hpr.out]; exact hM
                              rw [decide_eq_true hM'] at cM
                              have HPT : Hid (PredTo L wd (HitAt R H1) f (q + 1)) := hid (hpred.out.succ (fun h => absurd hM h))
                              clear hM hM' hpok
                              go_wp2
                              go_roundw
                              case rel => exact ⟨q + 1, H1, by omega, by omega, by go_num, hHl, hH, hbh, hzero, hdone, hown, HPT⟩
                              case measure => simp [intOf]; omega
                            · have hM' : ¬ (pr : Int) ∈ L.members := by rw [← hpr.out]; exact hM
                              rw [decide_eq_false hM'] at cM
                              have hfar := hpok.far hM
                              obtain ⟨r, hr⟩ : ∃ m, Hid (rOf L q = m) := ⟨_, rfl⟩
                              rw [hpr.out, hr.out, hrl] at hfar
                              have hr6 : r + wd ≤ n6 := hfar.2
                              have cb : wr.cell? ⟨b5, o5 + pr, none⟩ = some (.int .i64 (r : Int)) := by rw [CC.out wr hbh.out b5 (o5 + pr) (by have := BELV.out.size; omega), row_at (R5.out.below BELV.out) bp5, hfar.1]
                              have HM := hid hM
                              clear hM hM' hpok hfar
                              go_wp2
                              clear cb cM cpr
                              go_loopw [53] (fun i wr => ∃ (j : Nat) (H : List Bool), j ≤ wd ∧ i = .int .i64 j ∧ Hid (H.length = wd) ∧ Hid (Blk wr gH (bls H) 4) ∧ Hid (Below gH V1 wr) ∧ Hid (∀ x, x < wd → HitAt R H x 0) ∧ Hid (DoneTo L wd (HitAt R H) k) ∧ Hid (HitAt R H kk sq) ∧ Hid (PredTo L wd (HitAt R H) f q) ∧ Hid (∀ x, x < j → HitAt R H x (L.rows.getD (r + x) 0))) (fun i _ => wd - (intOf i).toNat)
                              case atStart => exact ⟨0, H1, Nat.zero_le _, rfl, hHl, hH, hbh, hzero, hdone, hown, hpred, hid (fun x hx => absurd hx (by omega))⟩
                              case round =>
                                clear hHl hH hbh hzero hdone hown hpred ct
                                obtain ⟨j, H2, hj, rfl, hHl, hH, hbh, hzero, hdone, hown, hpred, hpart⟩ := hrel
                                by_cases hjw : j < wd
                                · have hjw' : (j : Int) < (wd : Int) := by omega
                                  have hrj' : (r : Int) + (j : Int) < (n6 : Int) := by omega
                                  have hnj' : (n6 : Int) + (j : Int) < ((n6 + wd : Nat) : Int) := by omega
                                  obtain ⟨b6, o6, e6, hb6, hc6⟩ := (R6.out.below BELV.out).2 (by omega)
                                  subst e6
                                  obtain ⟨cv, hcv⟩ : ∃ z, Hid (L.rows.getD (r + j) 0 = z) := ⟨_, rfl⟩
                                  have ccv : wr.cell? ⟨b6, o6 + (r + j), none⟩ = some (.int .i32 cv) := by rw [CC.out wr hbh.out b6 (o6 + (r + j)) hb6, hc6 (r + j) (by omega), hcv.out]
                                  clear hc6
                                  obtain ⟨uj, huj⟩ : ∃ z, Hid (R.getD j 0 = z) := ⟨_, rfl⟩
                                  have cuj := CR.out wr hbh.out j hjw
                                  rw [huj.out] at cuj
                                  have hcu : cv ≤ uj := by
                                    rw [← hcv.out, ← huj.out, ← hr.out]
                                    exact (HLUB.out.done k HLK.out).2 q (by rw [hf.out]; exact hq0) (by rw [ht.out]; exact hqt) HM.out j hjw
                                  have chj : wr.cell? ⟨gH, j, none⟩ = some (.bool (H2.getD j false)) := by rw [hH.out.cell]; exact bls_get _ _ (by rw [hHl.out]; exact hjw)
                                  have fhj := hH.out.frozen j
                                  generalize H2.getD j false = hb1 at chj
                                  by_cases hz : cv = uj
                                  · have hz1 : (cv == uj) = true := by simpa using hz
                                    have HLJ : Hid (j < H2.length) := hid (by rw [hHl.out]; exact hjw)
                                    clear hz
                                    go_wp2
                                    go_roundw
                                    case rel =>
                                      refine ⟨j + 1, H2.set j true, by omega, by go_num, hid (by simp [hHl.out]), hid (by rw [← bls_set]; exact hH.out.set j _), hid (hbh.out.setCell (Nat.le_refl _) _), hid (fun x hx => HitAt.up HLJ.out _ _ (hzero.out x hx)), hid (hdone.out.mono (HitAt.up HLJ.out)), hid (HitAt.up HLJ.out _ _ hown.out), hid (hpred.out.mono (HitAt.up HLJ.out)), hid (fun x hx => ?_)⟩
                                      by_cases e : x = j
                                      · subst e; exact HitAt.new HLJ.out _
                                      · exact HitAt.up HLJ.out _ _ (hpart.out x (by omega))
                                    case measure => simp [intOf]; omega
                                  · have hz1 : (cv == uj) = false := by simpa using hz
                                    have HZ := hid hz
                                    clear hz
                                    go_wp2
                                    go_roundw
                                    case rel =>
                                      refine ⟨j + 1, H2, by omega, by go_num, hHl, hH, hbh, hzero, hdone, hown, hpred, hid (fun x hx => ?_)⟩
                                      by_cases e : x = j
                                      · subst e; exact fun e2 => absurd (hcv.out.symm.trans (e2.symm.trans huj.out)) HZ.out
                                      · exact hpart.out x (by omega)
                                    case measure => simp [intOf]; omega
                                · have ej : wd = j := by omega
                                  have HPT : Hid (PredTo L wd (HitAt R H2) f (q + 1)) := hid (hpred.out.succ (fun _ x hx => by rw [hr.out]; exact hpart.out x (by omega)))
                                  clear ej
                                  go_wp2
                                  go_roundw
                                  case rel => exact ⟨q + 1, H2, by omega, by omega, by go_num, hHl, hH, hbh, hzero, hdone, hown, HPT⟩
                                  case measure => simp [intOf]; omega
                          · have eqt : q = t := by omega
                            have HDN : Hid (DoneTo L wd (HitAt R H1) (k + 1)) := hid (hdone.out.succ (by rw [hkk.out, hm.out, hsq.out]; exact hown.out) (by rw [hf.out, ht.out, ← eqt]; exact hpred.out))
                            have hqt' : ¬ (q : Int) < (t : Int) := by omega
                            clear eqt
                            go_wp2
                            go_roundw
                            case rel => exact ⟨k + 1, H1, by omega, by go_num, hHl, hH, hbh, hzero, HDN⟩
                            case measure => simp [intOf]; omega
                    · have ek : n7 = k := by omega
                      subst ek
                      clear hlt hk
                      have HALL : Hid (∀ x, x < wd → H.getD x false = true) := hid (fun x hx => all_hit HLUB.out hzero.out (by rw [HN.out.l7]; exact hdone.out) hx)
                      go_wp2
                      go_loop [56] (fun i => ∃ k : Nat, k ≤ wd ∧ i = .int .i64 k) (fun i => wd - (intOf i).toNat)
                      case atStart => exact ⟨0, Nat.zero_le _, rfl⟩
                      case round =>
                        obtain ⟨k, hk, rfl⟩ := hrel
                        by_cases hlt : k < wd
                        · have hlt' : (k : Int) < (wd : Int) := by omega
                          have chk : wr.cell? ⟨gH, k, none⟩ = some (.bool true) := by rw [hH.out.cell, bls_get _ _ (by rw [hHl.out]; exact hlt), HALL.out k hlt]
                          go_wp2
                          go_round
                          case rel => exact ⟨k + 1, by omega, by go_num⟩
                          case measure => simp [intOf]; omega
                        · go_wp2
                          go_ret
                          have h1 := BELV.out.size
                          have h2 := hbv.out.size
                          exact ⟨rfl, (BELV.out.trans (hbv.out.mono h1)).trans (hbh.out.mono (by omega))⟩

end Go.Proofs.Qxb6603398a
