/-
  THE WALK of (*clocks).addComponent: the row that it lays is the least upper bound of its sources.
-/
import Derived.Test.Qxb6603398aWalkOf
import Derived.Test.Qxb6603398aLub
namespace Go.Proofs.Qxb6603398a
open Go.RowKit Mem Plain
set_option linter.unusedVariables false

/-- The blocks that addComponent writes. -/
def Own3 (pc gr gR : Nat) (k : Nat) : Prop := k = pc ∨ k = gr ∨ k = gR
/-- The lengths. -/
structure Lens (L : Lists) (n0 n1 n2 n3 n4 n5 n6 n7 n8 n9 n10 : Nat) : Prop where
  l0 : L.scope.length = n0
  l1 : L.stream.length = n1
  l2 : L.seq.length = n2
  l3 : L.width.length = n3
  l4 : L.slot.length = n4
  l5 : L.row.length = n5
  l6 : L.rows.length = n6
  l7 : L.members.length = n7
  l8 : L.preds.length = n8
  l9 : L.froms.length = n9
  l10 : L.tos.length = n10
/-- A clocks as ZZAddComponent lays it. -/
def clk (g0 g1 g2 g3 g4 gr gR n0 n1 n2 n3 n4 n5 k c : Nat) : List Value :=
  [.slice (some ⟨g0, 0, none⟩) n0 n0, .slice (some ⟨g1, 0, none⟩) n1 n1, .slice (some ⟨g2, 0, none⟩) n2 n2, .slice none 0 0, .int .i32 0, .slice (some ⟨g3, 0, none⟩) n3 n3, .slice none 0 0, .slice (some ⟨g4, 0, none⟩) n4 n4, .slice (some ⟨gr, 0, none⟩) n5 n5, .slice (some ⟨gR, 0, none⟩) k c]
/-- What lies where: the read blocks, below gr; the spans' block; the predecessors. -/
structure Lay (L : Lists) (w : World) (g0 g1 g2 g3 g4 g7 g9 gr : Nat) (a8 : Option Addr) (n8 : Nat) : Prop where
  b0 : Blk w g0 (ints .i32 L.scope) 21
  b1 : Blk w g1 (ints .i32 L.stream) 21
  b2 : Blk w g2 (ints .i32 L.seq) 21
  b3 : Blk w g3 (ints .i32 L.width) 21
  b4 : Blk w g4 (ints .i32 L.slot) 21
  b7 : Blk w g7 (ints .i32 L.members) 21
  s0 : ∀ m, m < L.froms.length → w.cell? ⟨g9, m * 2, none⟩ = some (.int .i32 (L.froms.getD m 0))
  s1 : ∀ m, m < L.froms.length → w.cell? ⟨g9, m * 2 + 1, none⟩ = some (.int .i32 (L.tos.getD m 0))
  l9 : g9 < w.heap.size
  r8 : 0 < n8 → ∃ b off, a8 = some ⟨b, off, none⟩ ∧ b < gr ∧ b < w.heap.size ∧ ∀ i, i < n8 → w.cell? ⟨b, off + i, none⟩ = some (.int .i32 (L.preds.getD i 0))
/-- The order of the blocks. -/
structure Ord (g0 g1 g2 g3 g4 g7 g9 gr gR pc : Nat) : Prop where
  o0 : g0 < gr
  o1 : g1 < gr
  o2 : g2 < gr
  o3 : g3 < gr
  o4 : g4 < gr
  o7 : g7 < gr
  o8 : gr < gR
  o9 : gR < g9
  oc : g9 < pc

theorem Lay.keeps {L : Lists} {w w' : World} {g0 g1 g2 g3 g4 g7 g9 gr gR pc n8 : Nat} {a8 : Option Addr} (h : Lay L w g0 g1 g2 g3 g4 g7 g9 gr a8 n8) (hk : Keeps (Own3 pc gr gR) w w') (o : Ord g0 g1 g2 g3 g4 g7 g9 gr gR pc) : Lay L w' g0 g1 g2 g3 g4 g7 g9 gr a8 n8 := by
  obtain ⟨o0, o1, o2, o3, o4, o7, o8, o9, oc⟩ := o
  have n9 : ¬ Own3 pc gr gR g9 := by unfold Own3; omega
  refine ⟨h.b0.keeps hk (by unfold Own3; omega), h.b1.keeps hk (by unfold Own3; omega), h.b2.keeps hk (by unfold Own3; omega), h.b3.keeps hk (by unfold Own3; omega), h.b4.keeps hk (by unfold Own3; omega), h.b7.keeps hk (by unfold Own3; omega), ?_, ?_, Nat.lt_of_lt_of_le h.l9 hk.size, ?_⟩
  · intro m hm
    rw [hk.cell (p := ⟨g9, m * 2, none⟩) h.l9 n9]; exact h.s0 m hm
  · intro m hm
    rw [hk.cell (p := ⟨g9, m * 2 + 1, none⟩) h.l9 n9]; exact h.s1 m hm
  · intro hn
    obtain ⟨b, off, e, hb, hs, hc⟩ := h.r8 hn
    refine ⟨b, off, e, hb, Nat.lt_of_lt_of_le hs hk.size, fun i hi => ?_⟩
    rw [hk.cell (p := ⟨b, off + i, none⟩) hs (by unfold Own3; simp; omega)]; exact hc i hi

theorem slice_h (a : Option Addr) (n c h : Nat) (hc : h ≤ c) (w : World) : (Instr.slice 29 (.slice a n c) none (some (.int .i64 (h : Int))) none).run Try.prog w = .ok (.slice (cutA a c 0) h c) w := by
  have e3 : Try.prog.elem 29 = 21 := by kernel_rfl
  have hu : Try.prog.underlying 29 = some (.slice (Try.prog.elem 29)) := by rw [e3]; exact Try.underlying29
  obtain ⟨i, hi, hz0, hz1, hz2⟩ := info_parts Try.info21
  rw [run_slice_h w 29 a n c hu .i64 (h : Int) (by omega) (by omega), e3]
  simp [sizeOf, typeInfo, hi, hz1, Result.andThen, sliced, cutA]

theorem getD_append_right' (a b : List Int) (j : Nat) : (a ++ b).getD (a.length + j) 0 = b.getD j 0 := by
  simp only [List.getD, List.getElem?_append_right (Nat.le_add_right _ _), Nat.add_sub_cancel_left]
theorem getD_append_left' (a b : List Int) (j : Nat) (h : j < a.length) : (a ++ b).getD j 0 = a.getD j 0 := by
  simp [List.getD, List.getElem?_append_left h]
theorem set_append_right' (a b : List Int) (j : Nat) (v : Int) : (a ++ b).set (a.length + j) v = a ++ b.set j v := by
  rw [List.set_append_right _ _ (by omega), Nat.add_sub_cancel_left]

/-- What addComponent leaves. -/
def AddRet (L : Lists) (wd g0 g1 g2 g3 g4 gr gR pc n0 n1 n2 n3 n4 n5 n6 : Nat) (w : World) (e : Ending) (w' : World) : Prop :=
  e = .returned (.tuple #[]) ∧ Keeps (Own3 pc gr gR) w w' ∧ Blk w' pc (clk g0 g1 g2 g3 g4 gr gR n0 n1 n2 n3 n4 n5 (n6 + wd) (n6 + wd)) 47 ∧
  Blk w' gr (ints .i64 (rowSet L.row L.members n6)) 3 ∧ ∃ R, Lub L wd R ∧ Blk w' gR (ints .i32 (L.rows ++ R)) 21

set_option maxRecDepth 20000 in
set_option maxHeartbeats 8000000 in
theorem add_any (L : Lists) (hL : In L) (wd sc m0 g0 g1 g2 g3 g4 g7 g9 gr gR pc n0 n1 n2 n3 n4 n5 n6 n7 n8 n9 n10 : Nat) (a8 : Option Addr) (w : World)
    (hf : Fit L wd sc m0) (hn : Lens L n0 n1 n2 n3 n4 n5 n6 n7 n8 n9 n10) (ho : Ord g0 g1 g2 g3 g4 g7 g9 gr gR pc) (hy : Lay L w g0 g1 g2 g3 g4 g7 g9 gr a8 n8)
    (hc : Blk w pc (clk g0 g1 g2 g3 g4 gr gR n0 n1 n2 n3 n4 n5 n6 (n6 + wd)) 47) (hr : Blk w gr (ints .i64 L.row) 3) (hR : Blk w gR (ints .i32 (L.rows ++ List.replicate wd 0)) 21) :
    Calls Try.prog 18 #[.pointer (some ⟨pc, 0, none⟩), .slice (some ⟨g7, 0, none⟩) n7 n7, .slice a8 n8 n8, .slice (some ⟨g9, 0, none⟩) n9 n9] w (AddRet L wd g0 g1 g2 g3 g4 gr gR pc n0 n1 n2 n3 n4 n5 n6 w) := by
  have HF := hid hf
  have HN := hid hn
  have HO := hid ho
  have HY := hid hy
  have HC := hid hc
  have HR := hid hr
  have HRR := hid hR
  obtain ⟨l0, l1, l2, l3, l4, l5, l6, l7, l8, l9, l10⟩ := hn
  have hby := hf.bytes
  have hwl := hf.wl
  have h7 := hf.some
  have hmm := hf.mem' h7
  have hm0 : m0 < n0 := by have := hf.l0; omega
  have hsc : sc < n3 := by have := hf.l3; omega
  have hw1 : 0 < wd := by have := hmm.kw; omega
  rw [l0, l1, l2, l3, l4, l5, l6, l7, l8, l9, l10] at hby
  rw [l7] at h7
  have c9 : w.cell? ⟨pc, 9, none⟩ = some (.slice (some ⟨gR, 0, none⟩) n6 (n6 + wd)) := by rw [hc.cell]; rfl
  have c5 : w.cell? ⟨pc, 5, none⟩ = some (.slice (some ⟨g3, 0, none⟩) n3 n3) := by rw [hc.cell]; rfl
  have c0 : w.cell? ⟨pc, 0, none⟩ = some (.slice (some ⟨g0, 0, none⟩) n0 n0) := by rw [hc.cell]; rfl
  have f9 := hc.frozen 9
  have cm0 : w.cell? ⟨g7, 0, none⟩ = some (.int .i32 (m0 : Int)) := by rw [hy.b7.int (by omega), hf.em0]
  have cs0 : w.cell? ⟨g0, m0, none⟩ = some (.int .i32 (sc : Int)) := by rw [hy.b0.int (by omega), hf.esc]
  have cw0 : w.cell? ⟨g3, sc, none⟩ = some (.int .i32 (wd : Int)) := by rw [hy.b3.int (by omega), hf.ewd]
  have hsl := slice_h (some ⟨gR, 0, none⟩) n6 (n6 + wd) (n6 + wd) (Nat.le_refl _)
  rw [cutA_some _ _ _ _ (by omega)] at hsl
  simp only [Int.natCast_add, Nat.add_zero] at hsl
  have i1 : (m0 : Int) < (n0 : Int) := by omega
  have i2 : (sc : Int) < (n3 : Int) := by omega
  have i3 : (0 : Int) < (n7 : Int) := by omega
  have i4 : (n6 : Int) ≤ 262144 := by omega
  have i5 : (wd : Int) ≤ 65536 := by omega
  have i6 : (n7 : Int) ≤ 262144 := by omega
  clear hf ho hy hc hr hR l0 l1 l2 l3 l4 l5 l6 l7 l8 l9 l10 hmm
  go_enter Try.func18, Try.ntmps18
  go_wp2
  go_region
  all_goals go_wp2
  clear hsl cm0 cs0 cw0 c9 c5 c0 f9
  go_loopw [52] (fun i wr => ∃ k : Nat, k ≤ n7 ∧ i = .int .i64 k ∧ Hid (Keeps (Own3 pc gr gR) w wr) ∧ Hid (Blk wr pc (clk g0 g1 g2 g3 g4 gr gR n0 n1 n2 n3 n4 n5 (n6 + wd) (n6 + wd)) 47) ∧
    Hid (Blk wr gr (ints .i64 (rowSet L.row (L.members.take k) n6)) 3) ∧ Hid (Blk wr gR (ints .i32 (L.rows ++ List.replicate wd 0)) 21)) (fun i _ => n7 - (intOf i).toNat)
  case atStart =>
    have o := HO.out
    refine ⟨0, Nat.zero_le _, rfl, hid ?_, hid ?_, hid ?_, hid ?_⟩
    · exact ((Keeps.refl _ _).setCell (.inl rfl) _).drew
    · exact (HC.out.set 9 _).drew
    · rw [List.take_zero, rowSet_nil]; exact (HR.out.other (by have := o.o8; have := o.o9; have := o.oc; omega) 9 _).drew
    · exact (HRR.out.other (by have := o.o8; have := o.o9; have := o.oc; omega) 9 _).drew
  case round =>
    obtain ⟨k, hk, rfl, hkp, hcl, hrw, hRw⟩ := hrel
    have hy := HY.out.keeps hkp.out HO.out
    have hn := HN.out
    have c8 : wr.cell? ⟨pc, 8, none⟩ = some (.slice (some ⟨gr, 0, none⟩) n5 n5) := by rw [hcl.out.cell]; rfl
    by_cases hlt : k < n7
    · have hlt' : (k : Int) < (n7 : Int) := by omega
      have hmem := HF.out.mem' (i := k) (by rw [hn.l7]; exact hlt)
      obtain ⟨m, hm⟩ : ∃ m, Hid (mOf L k = m) := ⟨_, rfl⟩
      rw [hm.out] at hmem
      have cz : wr.cell? ⟨g7, k, none⟩ = some (.int .i32 (m : Int)) := by rw [hy.b7.int (by rw [hn.l7]; exact hlt), hmem.em]
      have hm5 : m < n5 := by rw [← hn.l5]; exact hmem.l5
      have hm5' : (m : Int) < (n5 : Int) := by omega
      have cr : wr.cell? ⟨gr, m, none⟩ = some (.int .i64 ((rowSet L.row (L.members.take k) n6).getD m 0)) := hrw.out.int (by rw [rowSet_length, hn.l5]; exact hm5)
      generalize (rowSet L.row (L.members.take k) n6).getD m 0 = old at cr
      have fr := hrw.out.frozen m
      have EM := hid hmem.em
      have L7 := hid hn.l7
      have L5 := hid hn.l5
      clear hmem hy hn
      go_wp2
      go_roundw
      case rel =>
        have o := HO.out
        refine ⟨k + 1, by omega, by go_num, hid (hkp.out.setCell (.inr (.inl rfl)) _), hid (hcl.out.other (by have := o.o8; have := o.o9; have := o.oc; omega) m _), hid ?_, hid (hRw.out.other (by have := o.o8; omega) m _)⟩
        rw [take_succ_getD _ _ (by rw [L7.out]; exact hlt), EM.out, ← rowSet_set _ _ _ _ (by rw [L5.out]; exact hm5), ← ints_set]
        exact hrw.out.set m _
      case measure => simp [intOf]; omega
    · have ek : n7 = k := by omega
      subst ek
      obtain ⟨w1, hw1⟩ : ∃ w1, w1 = wr := ⟨_, rfl⟩
      subst hw1
      have hfull : L.members.take n7 = L.members := List.take_of_length_le (by rw [hn.l7]; exact Nat.le_refl _)
      rw [hfull] at hrw
      clear hfull hlt hk
      have hf := HF.out
      have hfm := hf.mem' (i := 0) (by rw [hn.l7]; exact h7)
      have e00 : mOf L 0 = m0 := by unfold mOf; rw [hf.em0]; exact Int.toNat_natCast m0
      rw [e00] at hfm
      have cm0 : w1.cell? ⟨g7, 0, none⟩ = some (.int .i32 (m0 : Int)) := by rw [hy.b7.int (by rw [hn.l7]; exact h7), hf.em0]
      have hmemb : (m0 : Int) ∈ L.members := by
        rw [← hf.em0]
        simp [List.getD, show 0 < L.members.length by rw [hn.l7]; exact h7]
      have cr0 : w1.cell? ⟨gr, 0 + m0, none⟩ = some (.int .i64 (n6 : Int)) := by
        rw [Nat.zero_add, hrw.out.int (by rw [rowSet_length]; exact hfm.l5), rowSet_getD _ _ _ _ hfm.l5, if_pos hmemb]
      have cs0 : w1.cell? ⟨g0, 0 + m0, none⟩ = some (.int .i32 (sc : Int)) := by rw [Nat.zero_add, hy.b0.int (by rw [hn.l0]; exact hm0), hf.esc]
      have cw0 : w1.cell? ⟨g3, 0 + sc, none⟩ = some (.int .i32 (wd : Int)) := by rw [Nat.zero_add, hy.b3.int (by rw [hn.l3]; exact hsc), hf.ewd]
      have c9 : w1.cell? ⟨pc, 9, none⟩ = some (.slice (some ⟨gR, 0, none⟩) (n6 + wd) (n6 + wd)) := by rw [hcl.out.cell]; rfl
      have c5 : w1.cell? ⟨pc, 5, none⟩ = some (.slice (some ⟨g3, 0, none⟩) n3 n3) := by rw [hcl.out.cell]; rfl
      have c0 : w1.cell? ⟨pc, 0, none⟩ = some (.slice (some ⟨g0, 0, none⟩) n0 n0) := by rw [hcl.out.cell]; rfl
      have hm5 : m0 < n5 := by rw [← hn.l5]; exact hfm.l5
      have HOF := hid (of_any pc m0 n6 sc wd gr 0 n5 n5 (n6 + wd) (n6 + wd) g3 0 n3 n3 g0 0 n0 n0 (some ⟨gR, 0, none⟩) w1 c8 c9 c5 c0 cr0 cs0 cw0 hm5 hm0 hsc (Nat.le_refl _) (by omega) (by omega) (by omega) (by omega))
      rw [cutA_some _ _ _ _ (by omega), Nat.zero_add, Nat.add_sub_cancel_left] at HOF
      have HY1 := hid hy
      clear hf hfm cr0 cs0 cw0 c9 c5 c0 c8 hmemb e00 hy hn
      go_wp2_with fail
      refine HOF.out.mono ?_
      rintro e w2 ⟨rfl, d, rfl⟩
      go_wp2
      go_loopw [71] (fun i wr => ∃ (k : Nat) (R : List Int), k ≤ n7 ∧ i = .int .i64 k ∧ Hid (Keeps (Own3 pc gr gR) w wr) ∧ Hid (Blk wr pc (clk g0 g1 g2 g3 g4 gr gR n0 n1 n2 n3 n4 n5 (n6 + wd) (n6 + wd)) 47) ∧
        Hid (Blk wr gr (ints .i64 (rowSet L.row L.members n6)) 3) ∧ Hid (Blk wr gR (ints .i32 (L.rows ++ R)) 21) ∧ Hid (Grew L wd R) ∧ Hid (DoneTo L wd (Le R) k)) (fun i _ => n7 - (intOf i).toNat)
      case atStart => exact ⟨0, List.replicate wd 0, Nat.zero_le _, rfl, hid (hkp.out.drewN _), hid (hcl.out.drewN _), hid (hrw.out.drewN _), hid (hRw.out.drewN _), hid (Grew.zero _ _), hid (DoneTo.zero _ _ _)⟩
      case round =>
        clear hkp hcl hrw hRw HOF HY1 cm0
        obtain ⟨k, R, hk, rfl, hkp, hcl, hrw, hRw, hgrew, hdone⟩ := hrel
        by_cases hlt : k < n7
        · have hlt' : (k : Int) < (n7 : Int) := by omega
          have hy := HY.out.keeps hkp.out HO.out
          have hn := HN.out
          have hlk : k < L.members.length := by rw [hn.l7]; exact hlt
          have hmem := HF.out.mem' hlk
          have hspan := HF.out.span' hlk
          obtain ⟨m, hm⟩ : ∃ m, Hid (mOf L k = m) := ⟨_, rfl⟩
          obtain ⟨st, hst⟩ : ∃ m, Hid (sOf L k = m) := ⟨_, rfl⟩
          obtain ⟨kk, hkk⟩ : ∃ m, Hid (kOf L k = m) := ⟨_, rfl⟩
          obtain ⟨f, hf⟩ : ∃ m, Hid (fOf L k = m) := ⟨_, rfl⟩
          obtain ⟨t, ht⟩ : ∃ m, Hid (tOf L k = m) := ⟨_, rfl⟩
          rw [hm.out, hst.out, hkk.out] at hmem
          rw [hm.out, hf.out, ht.out] at hspan
          have hRl := hgrew.out.len
          obtain ⟨x0, x1, x2, x3, x4, x5, x6, x7, x8, x9, x10⟩ := hn
          have bm1 : m < n1 := by rw [← x1]; exact hmem.l1
          have bm2 : m < n2 := by rw [← x2]; exact hmem.l2
          have bm9 : m < n9 := by rw [← x9]; exact hmem.l9
          have bst : st < n4 := by rw [← x4]; exact hmem.l4
          have bkk : kk < wd := hmem.kw
          have bft : f ≤ t := hspan.ft
          have btl : t ≤ n8 := by rw [← x8]; exact hspan.tl
          have cz : wr.cell? ⟨g7, k, none⟩ = some (.int .i32 (m : Int)) := by rw [hy.b7.int hlk, hmem.em]
          have cst : wr.cell? ⟨g1, m, none⟩ = some (.int .i32 (st : Int)) := by rw [hy.b1.int hmem.l1, hmem.est]
          have ckk : wr.cell? ⟨g4, st, none⟩ = some (.int .i32 (kk : Int)) := by rw [hy.b4.int hmem.l4, hmem.ek]
          obtain ⟨sq, hsq⟩ : ∃ z, Hid (L.seq.getD m 0 = z) := ⟨_, rfl⟩
          have csq : wr.cell? ⟨g2, m, none⟩ = some (.int .i32 sq) := by rw [hy.b2.int hmem.l2, hsq.out]
          obtain ⟨rk, hrk⟩ : ∃ z, Hid (R.getD kk 0 = z) := ⟨_, rfl⟩
          have crk : wr.cell? ⟨gR, n6 + kk, none⟩ = some (.int .i32 rk) := by
            rw [hRw.out.int (by rw [List.length_append, hRl, x6]; omega), ← x6, getD_append_right', hrk.out]
          have frk := hRw.out.frozen (n6 + kk)
          have csf : wr.cell? ⟨g9, m * 2, none⟩ = some (.int .i32 (f : Int)) := by rw [hy.s0 m hmem.l9, hspan.ef]
          have cst1 : wr.cell? ⟨g9, m * 2 + 1, none⟩ = some (.int .i32 (t : Int)) := by rw [hy.s1 m hmem.l9, hspan.et]
          have c1 : wr.cell? ⟨pc, 1, none⟩ = some (.slice (some ⟨g1, 0, none⟩) n1 n1) := by rw [hcl.out.cell]; rfl
          have c2 : wr.cell? ⟨pc, 2, none⟩ = some (.slice (some ⟨g2, 0, none⟩) n2 n2) := by rw [hcl.out.cell]; rfl
          have c7 : wr.cell? ⟨pc, 7, none⟩ = some (.slice (some ⟨g4, 0, none⟩) n4 n4) := by rw [hcl.out.cell]; rfl
          obtain ⟨mx, hmx⟩ : ∃ z, Hid (max rk sq = z) := ⟨_, rfl⟩
          have hif : (if rk < sq then sq else rk) = mx := by rw [← hmx.out]; split <;> omega
          obtain ⟨aF, haF⟩ : ∃ a, Hid (cutA a8 n8 f = a) := ⟨_, rfl⟩
          have hsl := slice_lh .i32 .i32 a8 n8 n8 f t bft btl
          rw [haF.out] at hsl
          have ib1 : (m : Int) < (n1 : Int) := by omega
          have ib2 : (m : Int) < (n2 : Int) := by omega
          have ib9 : (m : Int) < (n9 : Int) := by omega
          have ibs : (st : Int) < (n4 : Int) := by omega
          have ibk : (kk : Int) < (wd : Int) := by omega
          have o9 := HO.out.o9
          have HSP := hid hspan
          have HME := hid hmem
          have HLK := hid hlk
          have X6 := hid x6
          have HRL := hid hRl
          clear hy hspan hmem x0 x1 x2 x3 x4 x5 x6 x7 x8 x9 x10 hRl hlk
          go_wp2
          go_quiet (fail)
          go_wp2
          go_region
          all_goals go_wp2
          clear hif
          go_quiet (fail)
          go_wp2
          clear cst1 csf hsl csq ckk cst cz c7 c2 c1 crk frk
          go_loopw [116] (fun i wr => ∃ (p : Nat) (R : List Int), p ≤ t - f ∧ i = .int .i64 p ∧ Hid (Keeps (Own3 pc gr gR) w wr) ∧ Hid (Blk wr pc (clk g0 g1 g2 g3 g4 gr gR n0 n1 n2 n3 n4 n5 (n6 + wd) (n6 + wd)) 47) ∧
            Hid (Blk wr gr (ints .i64 (rowSet L.row L.members n6)) 3) ∧ Hid (Blk wr gR (ints .i32 (L.rows ++ R)) 21) ∧ Hid (Grew L wd R) ∧ Hid (DoneTo L wd (Le R) k) ∧ Hid (Le R kk sq) ∧ Hid (PredTo L wd (Le R) f (f + p))) (fun i _ => (t - f) - (intOf i).toNat)
          case atStart =>
            have o := HO.out
            have e1 : R.set kk mx = R.set kk (max (R.getD kk 0) sq) := by rw [← hmx.out, hrk.out]
            have hkR : kk < R.length := by rw [HRL.out]; exact bkk
            refine ⟨0, R.set kk mx, Nat.zero_le _, rfl, hid (((hkp.out.drewN _).setCell (.inr (.inr rfl)) _).drewN _), hid (((hcl.out.drewN _).other (by have := o.o9; have := o.oc; omega) _ _).drewN _), hid (((hrw.out.drewN _).other (by have := o.o8; omega) _ _).drewN _), hid ?_, hid ?_, hid ?_, hid ?_, hid ?_⟩
            · rw [← set_append_right', X6.out, ← ints_set]
              exact ((hRw.out.drewN _).set _ _).drewN _
            · rw [e1]
              exact hgrew.out.up bkk (.inl ⟨k, HLK.out, hkk.out, by rw [hm.out]; exact hsq.out.symm⟩)
            · rw [e1]
              exact hdone.out.mono (Le.up hkR sq)
            · rw [e1]
              exact Le.new hkR sq
            · exact PredTo.zero _ _ _ _
          case round =>
            clear hkp hcl hrw hRw hgrew hdone HRL
            obtain ⟨p, R1, hp, rfl, hkp, hcl, hrw, hRw, hgrew, hdone, hown, hpred⟩ := hrel
            by_cases hpt : p < t - f
            · have hpt' : (p : Int) < ((t - f : Nat) : Int) := by omega
              have hy := HY.out.keeps hkp.out HO.out
              have hn := HN.out
              have hpok := HF.out.pred' (q := f + p) HLK.out (by rw [hf.out]; omega) (by rw [ht.out]; omega)
              obtain ⟨pr, hpr⟩ : ∃ m, Hid (pOf L (f + p) = m) := ⟨_, rfl⟩
              have bp0 : pr < n0 := by rw [← hn.l0, ← hpr.out]; exact hpok.l0
              have bp5 : pr < n5 := by rw [← hn.l5, ← hpr.out]; exact hpok.l5
              obtain ⟨b8, o8, e8, hb8, hb8', hc8⟩ := hy.r8 (by omega)
              have haF' := haF.out
              rw [e8, cutA_some _ _ _ _ (by omega)] at haF'
              have cpr : wr.cell? ⟨b8, o8 + f + p, none⟩ = some (.int .i32 (pr : Int)) := by
                rw [Nat.add_assoc, hc8 (f + p) (by omega), hpok.epr, hpr.out]
              subst haF'
              obtain ⟨r, hr⟩ : ∃ r : Nat, (rowSet L.row L.members n6).getD pr 0 = (r : Int) ∧ ((IsM L (f + p) ∧ r = n6) ∨ (¬ IsM L (f + p) ∧ r = rOf L (f + p) ∧ r + wd ≤ n6)) := by
                rw [rowSet_getD _ _ _ _ (by rw [hn.l5]; exact bp5)]
                by_cases hM : IsM L (f + p)
                · have hM' : (pr : Int) ∈ L.members := by rw [← hpr.out]; exact hM
                  exact ⟨n6, by rw [if_pos hM'], .inl ⟨hM, rfl⟩⟩
                · have hM' : ¬ (pr : Int) ∈ L.members := by rw [← hpr.out]; exact hM
                  have h1 := hpok.far hM
                  rw [hpr.out, hn.l6] at h1
                  exact ⟨rOf L (f + p), by rw [if_neg hM']; exact h1.1, .inr ⟨hM, rfl, h1.2⟩⟩
              have hrw6 : r + wd ≤ n6 + wd := by rcases hr.2 with h | h <;> omega
              have cr8 : wr.cell? ⟨gr, 0 + pr, none⟩ = some (.int .i64 (r : Int)) := by rw [Nat.zero_add, hrw.out.int (by rw [rowSet_length, hn.l5]; exact bp5), hr.1]
              have cs0 : wr.cell? ⟨g0, 0 + pr, none⟩ = some (.int .i32 (sc : Int)) := by rw [Nat.zero_add, hy.b0.int (by rw [hn.l0]; exact bp0), ← hpr.out, hpok.esc]
              have cw0 : wr.cell? ⟨g3, 0 + sc, none⟩ = some (.int .i32 (wd : Int)) := by rw [Nat.zero_add, hy.b3.int (by rw [hn.l3]; exact hsc), HF.out.ewd]
              have c9 : wr.cell? ⟨pc, 9, none⟩ = some (.slice (some ⟨gR, 0, none⟩) (n6 + wd) (n6 + wd)) := by rw [hcl.out.cell]; rfl
              have c8 : wr.cell? ⟨pc, 8, none⟩ = some (.slice (some ⟨gr, 0, none⟩) n5 n5) := by rw [hcl.out.cell]; rfl
              have c5 : wr.cell? ⟨pc, 5, none⟩ = some (.slice (some ⟨g3, 0, none⟩) n3 n3) := by rw [hcl.out.cell]; rfl
              have c0 : wr.cell? ⟨pc, 0, none⟩ = some (.slice (some ⟨g0, 0, none⟩) n0 n0) := by rw [hcl.out.cell]; rfl
              have HOF := hid (of_any pc pr r sc wd gr 0 n5 n5 (n6 + wd) (n6 + wd) g3 0 n3 n3 g0 0 n0 n0 (some ⟨gR, 0, none⟩) wr c8 c9 c5 c0 cr8 cs0 cw0 bp5 bp0 hsc hrw6 (by omega) (by omega) (by omega) (by omega))
              rw [cutA_some _ _ _ _ (by omega), Nat.zero_add] at HOF
              have HRR' := hid hr
              have HPO := hid hpok
              clear hr hpok hy hn cr8 cs0 cw0 c9 c8 c5 c0 hc8 e8
              go_wp2_with fail
              refine HOF.out.mono ?_
              rintro e w3 ⟨rfl, d3, rfl⟩
              clear HOF cpr
              go_wp2
              go_loopw [124] (fun i wr => ∃ (j : Nat) (R : List Int), j ≤ wd ∧ i = .int .i64 j ∧ Hid (Keeps (Own3 pc gr gR) w wr) ∧ Hid (Blk wr pc (clk g0 g1 g2 g3 g4 gr gR n0 n1 n2 n3 n4 n5 (n6 + wd) (n6 + wd)) 47) ∧
                Hid (Blk wr gr (ints .i64 (rowSet L.row L.members n6)) 3) ∧ Hid (Blk wr gR (ints .i32 (L.rows ++ R)) 21) ∧ Hid (Grew L wd R) ∧ Hid (DoneTo L wd (Le R) k) ∧ Hid (Le R kk sq) ∧ Hid (PredTo L wd (Le R) f (f + p)) ∧
                Hid (¬ IsM L (f + p) → ∀ x, x < j → Le R x (L.rows.getD (rOf L (f + p) + x) 0))) (fun i _ => wd - (intOf i).toNat)
              case atStart => exact ⟨0, R1, Nat.zero_le _, rfl, hid (hkp.out.drewN _), hid (hcl.out.drewN _), hid (hrw.out.drewN _), hid (hRw.out.drewN _), hgrew, hdone, hown, hpred, hid (fun _ x hx => absurd hx (by omega))⟩
              case round =>
                clear hkp hcl hrw hRw hgrew hdone hown hpred
                obtain ⟨j, R2, hj, rfl, hkp, hcl, hrw, hRw, hgrew, hdone, hown, hpred, hpart⟩ := hrel
                by_cases hjw : j < wd
                · have hjw' : (j : Int) < (wd : Int) := by omega
                  have hRl := hgrew.out.len
                  have x6 := X6.out
                  obtain ⟨v, hv⟩ : ∃ z, Hid ((L.rows ++ R2).getD (r + j) 0 = z) := ⟨_, rfl⟩
                  have cv : wr.cell? ⟨gR, r + j, none⟩ = some (.int .i32 v) := by rw [hRw.out.int (by rw [List.length_append, hRl, x6]; omega), hv.out]
                  obtain ⟨rj, hrj⟩ : ∃ z, Hid (R2.getD j 0 = z) := ⟨_, rfl⟩
                  have crj : wr.cell? ⟨gR, n6 + j, none⟩ = some (.int .i32 rj) := by
                    rw [hRw.out.int (by rw [List.length_append, hRl, x6]; omega), ← x6, getD_append_right', hrj.out]
                  have frj := hRw.out.frozen (n6 + j)
                  obtain ⟨mx, hmx⟩ : ∃ z, Hid (max rj v = z) := ⟨_, rfl⟩
                  have hif : (if rj < v then v else rj) = mx := by rw [← hmx.out]; split <;> omega
                  have HV : Hid ((v = R2.getD j 0 ∨ Plain.Source L j v) ∧ (¬ IsM L (f + p) → v = L.rows.getD (rOf L (f + p) + j) 0)) := hid (by
                    rcases HRR'.out.2 with ⟨h1, h2⟩ | ⟨h1, h2, h3⟩
                    · refine ⟨.inl ?_, fun h => absurd h1 h⟩
                      rw [← hv.out, h2, ← x6, getD_append_right']
                    · have e : v = L.rows.getD (rOf L (f + p) + j) 0 := by
                        rw [← hv.out, h2, getD_append_left' _ _ _ (by omega)]
                      exact ⟨.inr (.inr ⟨k, f + p, HLK.out, by rw [hf.out]; omega, by rw [ht.out]; omega, h1, e⟩), fun _ => e⟩)
                  have HRL := hid hRl
                  clear hRl x6
                  go_wp2
                  go_roundw
                  case rel =>
                    have o := HO.out
                    have e1 : R2.set j mx = R2.set j (max (R2.getD j 0) v) := by rw [← hmx.out, hrj.out]
                    have hkR : j < R2.length := by rw [HRL.out]; exact hjw
                    refine ⟨j + 1, R2.set j mx, by omega, by go_num, hid (hkp.out.setCell (.inr (.inr rfl)) _), hid (hcl.out.other (by have := o.o9; have := o.oc; omega) _ _), hid (hrw.out.other (by have := o.o8; omega) _ _), hid ?_, hid ?_, hid ?_, hid ?_, hid ?_, hid ?_⟩
                    · rw [← set_append_right', X6.out, ← ints_set]
                      exact hRw.out.set _ _
                    · rw [e1]; exact hgrew.out.up_or hjw HV.out.1
                    · rw [e1]; exact hdone.out.mono (Le.up hkR v)
                    · rw [e1]; exact Le.up hkR v _ _ hown.out
                    · rw [e1]; exact hpred.out.mono (Le.up hkR v)
                    · intro hM x hx
                      rw [e1]
                      by_cases e : x = j
                      · subst e
                        rw [← HV.out.2 hM]
                        exact Le.new hkR v
                      · exact Le.up hkR v _ _ (hpart.out hM x (by omega))
                  case measure => simp [intOf]; omega
                · have ej : wd = j := by omega
                  have HPT : Hid (PredTo L wd (Le R2) f (f + p + 1)) := hid (hpred.out.succ (fun hM x hx => hpart.out hM x (by omega)))
                  go_wp2
                  go_roundw
                  case rel => first | exact ⟨p + 1, R2, by omega, by go_num, hkp, hcl, hrw, hRw, hgrew, hdone, hown, HPT⟩ | ((repeat apply Exists.intro); exact ⟨⟨p + 1, R2, by omega, by go_num, hkp, hcl, hrw, hRw, hgrew, hdone, hown, HPT⟩, rfl⟩)
                  case measure => simp [intOf]; omega
            · have ept : f + p = t := by omega
              have HDN : Hid (DoneTo L wd (Le R1) (k + 1)) := hid (hdone.out.succ (by rw [hkk.out, hm.out, hsq.out]; exact hown.out) (by rw [hf.out, ht.out, ← ept]; exact hpred.out))
              clear ept
              go_wp2
              go_roundw
              case rel => exact ⟨k + 1, R1, by omega, by go_num, hkp, hcl, hrw, hRw, hgrew, HDN⟩
              case measure => simp [intOf]; omega
        · have ek : n7 = k := by omega
          subst ek
          go_wp2
          go_end0
          exact ⟨rfl, hkp.out, hcl.out, hrw.out, R, ⟨hgrew.out, by rw [HN.out.l7]; exact hdone.out⟩, hRw.out⟩
end Go.Proofs.Qxb6603398a
