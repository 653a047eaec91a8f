/-
  THE WALK of ZZAddComponent: the spans are laid, the clocks, addComponent is run, two fields come back.
-/
import Derived.Test.Qxb6603398aWalkAdd
namespace Go.Proofs.Qxb6603398a
open Go.RowKit Mem Plain
set_option linter.unusedVariables false

/-- Spans as they lie in memory. -/
def flat (ps : List (Int × Int)) : List Value := ps.flatMap fun p => [.int .i32 p.1, .int .i32 p.2]
theorem flat_append (a b : List (Int × Int)) : flat (a ++ b) = flat a ++ flat b := by simp [flat]
theorem flat_length (ps : List (Int × Int)) : (flat ps).length = 2 * ps.length := by
  induction ps with
  | nil => rfl
  | cons p ps ih => rw [show flat (p :: ps) = .int .i32 p.1 :: .int .i32 p.2 :: flat ps from rfl]; simp [ih]; omega
theorem flat_first (ps : List (Int × Int)) (i : Nat) (h : i < ps.length) : (flat ps)[i * 2]? = some (.int .i32 (ps.getD i (0, 0)).1) := by
  induction ps generalizing i with
  | nil => simp at h
  | cons p ps ih =>
    rw [show flat (p :: ps) = .int .i32 p.1 :: .int .i32 p.2 :: flat ps from rfl]
    cases i with
    | zero => rfl
    | succ i =>
      rw [show (i + 1) * 2 = i * 2 + 1 + 1 by omega, List.getElem?_cons_succ, List.getElem?_cons_succ]
      simpa using ih i (by simpa using h)
theorem flat_last (ps : List (Int × Int)) (i : Nat) (h : i < ps.length) : (flat ps)[i * 2 + 1]? = some (.int .i32 (ps.getD i (0, 0)).2) := by
  induction ps generalizing i with
  | nil => simp at h
  | cons p ps ih =>
    rw [show flat (p :: ps) = .int .i32 p.1 :: .int .i32 p.2 :: flat ps from rfl]
    cases i with
    | zero => rfl
    | succ i =>
      rw [show (i + 1) * 2 + 1 = i * 2 + 1 + 1 + 1 by omega, List.getElem?_cons_succ, List.getElem?_cons_succ]
      simpa using ih i (by simpa using h)

/-- n zeros of int32. -/
def zeros (n : Nat) : List Value := List.replicate n (.int .i32 0)
theorem Try.info44 : (Try.prog.info? 44).map (fun i => (i.zero, i.size, i.bytes)) = some (some (.agg #[.int .i32 0, .int .i32 0]), 2, 8) := by kernel_rfl
theorem made_two (n : Nat) : madeCells (Value.agg #[.int .i32 0, .int .i32 0]).cells (n * 2) = (zeros (n * 2)).toArray := by
  apply Array.ext'
  apply List.ext_getElem?
  intro j
  by_cases hj : j < n * 2
  · have : j % 2 = 0 ∨ j % 2 = 1 := by omega
    rcases this with h | h <;> simp [madeCells, zeros, hj, h, Value.cells]
  · simp [madeCells, zeros, hj]
theorem make42 (n : Nat) (hn : n ≤ 1048576) (w : World) : (Instr.makeSlice 42 (.int .i64 (n : Int)) (.int .i64 (n : Int))).run Try.prog w =
    .ok (.slice (some ⟨w.heap.size, 0, none⟩) n n) (w.alloc (.cells (zeros (n * 2)).toArray 44)) := by
  obtain ⟨i, hi, hz0, hz1, hz2⟩ := info_parts Try.info44
  have hr := run_make (P := Try.prog) w 42 44 i _ Try.underlying42 hi hz0 .i64 .i64 (n : Int) (n : Int) (by omega) (by omega) (by rw [hz2]; omega) (by omega)
  rw [hr, hz1]
  simp only [Int.toNat_natCast]
  rw [made_two]

/-- The spans behind k rounds. -/
def grow (n : Nat) (ps : List (Int × Int)) (k : Nat) : List Value := flat (ps.take k) ++ zeros ((n - k) * 2)
theorem grow_len {n : Nat} {ps : List (Int × Int)} {k : Nat} (h : ps.length = n) (hk : k ≤ n) : (flat (ps.take k)).length = k * 2 := by
  rw [flat_length, List.length_take]; omega
theorem grow_get {n : Nat} {ps : List (Int × Int)} {k : Nat} (h : ps.length = n) (hk : k < n) (j : Nat) (hj : j < 2) : (grow n ps k)[k * 2 + j]? = some (.int .i32 0) := by
  have e1 := grow_len h (Nat.le_of_lt hk)
  unfold grow
  rw [List.getElem?_append_right (by omega), e1, zeros, List.getElem?_replicate, if_pos (by omega)]
theorem grow_set {n : Nat} {ps : List (Int × Int)} {k : Nat} (h : ps.length = n) (hk : k < n) : ((grow n ps k).set (k * 2) (.int .i32 (ps.getD k (0, 0)).1)).set (k * 2 + 1) (.int .i32 (ps.getD k (0, 0)).2) = grow n ps (k + 1) := by
  have e1 := grow_len h (Nat.le_of_lt hk)
  have e2 : (n - k) * 2 = (n - (k + 1)) * 2 + 1 + 1 := by omega
  have e3 : ps.take (k + 1) = ps.take k ++ [ps[k]] := List.take_succ_eq_append_getElem (by omega)
  have e4 : ps.getD k (0, 0) = ps[k] := by simp [List.getD, show k < ps.length by omega]
  rw [e4]
  unfold grow
  rw [List.set_append_right _ _ (by omega), List.set_append_right _ _ (by omega), e1, e2, Nat.sub_self, show k * 2 + 1 - k * 2 = 1 by omega, e3, flat_append]
  simp [zeros, List.replicate_succ, flat]
theorem grow_full {n : Nat} {ps : List (Int × Int)} (h : ps.length = n) : grow n ps n = flat ps := by
  simp [grow, zeros, List.take_of_length_le (Nat.le_of_eq h)]
theorem grow_next {w wr : World} {n g k : Nat} {ps : List (Int × Int)} (h : ps.length = n) (hk : k < n) (hb : Blk wr g (grow n ps k) 44) (hbe : Below g w wr) (f l : Int) (hf : (ps.getD k (0, 0)).1 = f) (hl : (ps.getD k (0, 0)).2 = l) :
    Blk ((wr.setCell ⟨g, k * 2, none⟩ (.int .i32 f)).setCell ⟨g, k * 2 + 1, none⟩ (.int .i32 l)).drew g (grow n ps (k + 1)) 44 ∧
    Below g w ((wr.setCell ⟨g, k * 2, none⟩ (.int .i32 f)).setCell ⟨g, k * 2 + 1, none⟩ (.int .i32 l)).drew := by
  subst hf hl
  refine ⟨?_, ((hbe.setCell (Nat.le_refl _) _).setCell (Nat.le_refl _) _).drew⟩
  have h1 := ((hb.set (k * 2) (.int .i32 (ps.getD k (0, 0)).1)).set (k * 2 + 1) (.int .i32 (ps.getD k (0, 0)).2)).drew
  rwa [grow_set h hk] at h1

theorem zip_getD (a b : List Int) (k : Nat) (h1 : k < a.length) (h2 : k < b.length) : (a.zip b).getD k (0, 0) = (a.getD k 0, b.getD k 0) := by
  have h : k < (a.zip b).length := by rw [List.length_zip]; omega
  rw [List.getD, List.getElem?_eq_getElem h, List.getElem_zip]
  simp [List.getD, h1, h2]

/-- The blocks that ZZAddComponent writes. -/
def Own2 (gr gR : Nat) (k : Nat) : Prop := k = gr ∨ k = gR
/-- What it leaves. -/
def ZRet (L : Lists) (wd gr gR n5 n6 : Nat) (w : World) (e : Ending) (w' : World) : Prop := ∃ R, e = .returned (.tuple #[.slice (some ⟨gr, 0, none⟩) n5 n5, .slice (some ⟨gR, 0, none⟩) (n6 + wd) (n6 + wd)]) ∧
  Lub L wd R ∧ Blk w' gr (ints .i64 (rowSet L.row L.members n6)) 3 ∧ Blk w' gR (ints .i32 (L.rows ++ R)) 21 ∧ Keeps (Own2 gr gR) w w'

/-- What lies where ahead of it. -/
structure Lay0 (L : Lists) (w : World) (g0 g1 g2 g3 g4 g7 gf gt gr gR : Nat) (a8 : Option Addr) (n8 : Nat) : Prop where
  b0 : Blk w g0 (ints .i32 L.scope) 21
  b1 : Blk w g1 (ints .i32 L.stream) 21
  b2 : Blk w g2 (ints .i32 L.seq) 21
  b3 : Blk w g3 (ints .i32 L.width) 21
  b4 : Blk w g4 (ints .i32 L.slot) 21
  b7 : Blk w g7 (ints .i32 L.members) 21
  bf : Blk w gf (ints .i32 L.froms) 21
  bt : Blk w gt (ints .i32 L.tos) 21
  r8 : 0 < n8 → ∃ b off, a8 = some ⟨b, off, none⟩ ∧ b < gr ∧ b < w.heap.size ∧ ∀ i, i < n8 → w.cell? ⟨b, off + i, none⟩ = some (.int .i32 (L.preds.getD i 0))
  o0 : g0 < gr
  o1 : g1 < gr
  o2 : g2 < gr
  o3 : g3 < gr
  o4 : g4 < gr
  o7 : g7 < gr
  o8 : gr < gR

set_option maxRecDepth 20000 in
set_option maxHeartbeats 4000000 in
theorem zadd_any (L : Lists) (hL : In L) (wd sc m0 g0 g1 g2 g3 g4 g7 gf gt gr gR n0 n1 n2 n3 n4 n5 n6 n7 n8 n9 n10 : Nat) (a8 : Option Addr) (w : World)
    (hf : Fit L wd sc m0) (hn : Lens L n0 n1 n2 n3 n4 n5 n6 n7 n8 n9 n10) (hy : Lay0 L w g0 g1 g2 g3 g4 g7 gf gt gr gR a8 n8)
    (hr : Blk w gr (ints .i64 L.row) 3) (hR : Blk w gR (ints .i32 (L.rows ++ List.replicate wd 0)) 21) :
    Calls Try.prog 12 #[.slice (some ⟨g0, 0, none⟩) n0 n0, .slice (some ⟨g1, 0, none⟩) n1 n1, .slice (some ⟨g2, 0, none⟩) n2 n2, .slice (some ⟨g3, 0, none⟩) n3 n3, .slice (some ⟨g4, 0, none⟩) n4 n4, .slice (some ⟨gr, 0, none⟩) n5 n5, .slice (some ⟨gR, 0, none⟩) n6 (n6 + wd), .slice (some ⟨g7, 0, none⟩) n7 n7, .slice a8 n8 n8, .slice (some ⟨gf, 0, none⟩) n9 n9, .slice (some ⟨gt, 0, none⟩) n10 n10] w (ZRet L wd gr gR n5 n6 w) := by
  have HF := hid hf
  have HN := hid hn
  have HY := hid hy
  have HR := hid hr
  have HRR := hid hR
  have HP : Hid ((L.froms.zip L.tos).length = n9) := hid (by rw [List.length_zip, hn.l9, hn.l10]; have := hf.two; rw [hn.l9, hn.l10] at this; omega)
  have h910 : n9 = n10 := by have := hf.two; rw [hn.l9, hn.l10] at this; exact this
  have hby := hf.bytes
  rw [hn.l0, hn.l1, hn.l2, hn.l3, hn.l4, hn.l5, hn.l6, hn.l7, hn.l8, hn.l9, hn.l10] at hby
  subst h910
  have hmk := make42 n9 (by omega)
  have hgR := hR.lt
  have hgr := hr.lt
  clear hf hn hy hr hR
  go_enter Try.func12, Try.ntmps12
  go_wp2
  clear hmk
  go_loopw [32] (fun i wr => ∃ k : Nat, k ≤ n9 ∧ i = .int .i64 k ∧ Hid (Blk wr w.heap.size (grow n9 (L.froms.zip L.tos) k) 44) ∧ Hid (Below w.heap.size w wr)) (fun i _ => n9 - (intOf i).toNat)
  case atStart => exact ⟨0, Nat.zero_le _, rfl, hid (by simpa [grow, flat] using Blk.new w (zeros (n9 * 2)) 44), hid ((Below.refl _ _).alloc (Nat.le_refl _) _)⟩
  case round =>
    obtain ⟨k, hk, rfl, hblk, hb⟩ := hrel
    by_cases hlt : k < n9
    · have hlt' : (k : Int) < (n9 : Int) := by omega
      have hy := HY.out
      obtain ⟨f, hf⟩ : ∃ z, Hid (L.froms.getD k 0 = z) := ⟨_, rfl⟩
      obtain ⟨t, ht⟩ : ∃ z, Hid (L.tos.getD k 0 = z) := ⟨_, rfl⟩
      have cf : wr.cell? ⟨gf, k, none⟩ = some (.int .i32 f) := by rw [hb.out.cell (p := ⟨gf, k, none⟩) hy.bf.lt, hy.bf.int (by rw [HN.out.l9]; exact hlt), hf.out]
      have ct : wr.cell? ⟨gt, k, none⟩ = some (.int .i32 t) := by rw [hb.out.cell (p := ⟨gt, k, none⟩) hy.bt.lt, hy.bt.int (by rw [HN.out.l10]; exact hlt), ht.out]
      have g0' : wr.cell? ⟨w.heap.size, k * 2, none⟩ = some (.int .i32 0) := by rw [hblk.out.cell]; exact grow_get HP.out hlt 0 (by omega)
      have g1' : wr.cell? ⟨w.heap.size, k * 2 + 1, none⟩ = some (.int .i32 0) := by rw [hblk.out.cell]; exact grow_get HP.out hlt 1 (by omega)
      have f0 := hblk.out.frozen (k * 2)
      have f1 := hblk.out.frozen (k * 2 + 1)
      clear hy
      go_wp2
      go_region
      all_goals go_wp2
      go_roundw
      case rel =>
        have l9 := HN.out.l9
        have l10 := HN.out.l10
        have hz := zip_getD L.froms L.tos k (by omega) (by omega)
        have hh := grow_next HP.out hlt hblk.out hb.out f t (by rw [hz]; exact hf.out) (by rw [hz]; exact ht.out)
        exact ⟨k + 1, by omega, by go_num, hh.1, hh.2⟩
      case measure => simp [intOf]; omega
    · have ek : n9 = k := by omega
      subst ek
      have hf9 := hblk.out
      rw [grow_full HP.out] at hf9
      have hy := HY.out
      have hn := HN.out
      have hs9 : w.heap.size < wr.heap.size := hblk.out.lt
      have hzl : (L.froms.zip L.tos).length = n9 := HP.out
      have HLAY : ∀ o : Obj, Hid (Lay L (wr.alloc o) g0 g1 g2 g3 g4 g7 w.heap.size gr a8 n8) := fun o => hid ⟨(hy.b0.below hb.out hy.b0.lt).alloc o, (hy.b1.below hb.out hy.b1.lt).alloc o, (hy.b2.below hb.out hy.b2.lt).alloc o, (hy.b3.below hb.out hy.b3.lt).alloc o, (hy.b4.below hb.out hy.b4.lt).alloc o, (hy.b7.below hb.out hy.b7.lt).alloc o,
        fun m hm => by rw [(hf9.alloc o).cell, flat_first _ _ (by rw [hzl, ← hn.l9]; exact hm), zip_getD _ _ _ hm (by rw [hn.l10, ← hn.l9]; exact hm)],
        fun m hm => by rw [(hf9.alloc o).cell, flat_last _ _ (by rw [hzl, ← hn.l9]; exact hm), zip_getD _ _ _ hm (by rw [hn.l10, ← hn.l9]; exact hm)],
        by simp; omega,
        fun h8 => by
          obtain ⟨b, off, e, hb1, hb2, hc⟩ := hy.r8 h8
          refine ⟨b, off, e, hb1, by have := hb.out.size; simp; omega, fun i hi => ?_⟩
          have hbb := hb.out.alloc (hb.out.size) o
          rw [hbb.cell (p := ⟨b, off + i, none⟩) hb2]
          exact hc i hi⟩
      have HORD : Hid (Ord g0 g1 g2 g3 g4 g7 w.heap.size gr gR wr.heap.size) := hid ⟨hy.o0, hy.o1, hy.o2, hy.o3, hy.o4, hy.o7, hy.o8, hgR, hs9⟩
      clear hf9 hy hn hzl
      go_wp2_with fail
      refine (add_any L hL wd sc m0 g0 g1 g2 g3 g4 g7 w.heap.size gr gR wr.heap.size n0 n1 n2 n3 n4 n5 n6 n7 n8 n9 n9 a8 _ HF.out HN.out HORD.out (HLAY _).out ?_ ?_ ?_).mono ?_
      · exact Blk.new wr (clk g0 g1 g2 g3 g4 gr gR n0 n1 n2 n3 n4 n5 n6 (n6 + wd)) 47
      · exact (HR.out.below hb.out hgr).alloc _
      · exact (HRR.out.below hb.out hgR).alloc _
      rintro e w' ⟨rfl, hkeep, hclk, hrow, R, hlub, hrows⟩
      have c8 : w'.cell? ⟨wr.heap.size, 8, none⟩ = some (.slice (some ⟨gr, 0, none⟩) n5 n5) := by rw [hclk.cell]; rfl
      have c9 : w'.cell? ⟨wr.heap.size, 9, none⟩ = some (.slice (some ⟨gR, 0, none⟩) (n6 + wd) (n6 + wd)) := by rw [hclk.cell]; rfl
      have K1 := hid hkeep
      have K2 := hid hrow
      have K3 := hid hlub
      have K4 := hid hrows
      clear hkeep hclk hrow hlub hrows
      go_wp2
      go_quiet (fail)
      go_wp2
      go_ret2
      refine ⟨R, rfl, K3.out, K2.out.drewN _, K4.out.drewN _, Keeps.drewN ?_ _⟩
      have hk1 := K1.out
      have hsz := hb.out.size
      refine ⟨hk1.os.trans hb.out.os, hk1.tape.trans hb.out.tape, hk1.output.trans hb.out.output, by have := hk1.size; simp at this; omega, fun i hi hs => ?_⟩
      have h1 := hk1.block i (by simp; omega) (by unfold Own2 at hs; unfold Own3; omega)
      rw [h1, Below.heap_alloc _ _ _ (by omega), hb.out.block i hi]
end Go.Proofs.Qxb6603398a
