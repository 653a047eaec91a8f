/-
  THE WALKS of zzCountingSetOf and zzCountingSetParts: a countingSet in memory.
-/
import Derived.Test.Qxb6602619aWalkA
namespace Go.Proofs.Qxb6602619a
open Go.RowKit Mem Plain

/-- Runs as they lie in memory. -/
def flat (ps : List (Int × Int)) : List Value := ps.flatMap fun p => [.int .i64 p.1, .int .i64 p.2]
theorem flat_append (a b : List (Int × Int)) : flat (a ++ b) = flat a ++ flat b := by simp [flat]
theorem flat_length (ps : List (Int × Int)) : (flat ps).length = 2 * ps.length := by
  induction ps with
  | nil => rfl
  | cons p ps ih => rw [show flat (p :: ps) = .int .i64 p.1 :: .int .i64 p.2 :: flat ps from rfl]; simp [ih]; omega
theorem flat_first (ps : List (Int × Int)) (i : Nat) (h : i < ps.length) : (flat ps)[i * 2]? = some (.int .i64 (ps.getD i (0, 0)).1) := by
  induction ps generalizing i with
  | nil => simp at h
  | cons p ps ih =>
    rw [show flat (p :: ps) = .int .i64 p.1 :: .int .i64 p.2 :: flat ps from rfl]
    cases i with
    | zero => rfl
    | succ i =>
      rw [show (i + 1) * 2 = i * 2 + 1 + 1 by omega, List.getElem?_cons_succ, List.getElem?_cons_succ]
      simpa using ih i (by simpa using h)
theorem flat_last (ps : List (Int × Int)) (i : Nat) (h : i < ps.length) : (flat ps)[i * 2 + 1]? = some (.int .i64 (ps.getD i (0, 0)).2) := by
  induction ps generalizing i with
  | nil => simp at h
  | cons p ps ih =>
    rw [show flat (p :: ps) = .int .i64 p.1 :: .int .i64 p.2 :: flat ps from rfl]
    cases i with
    | zero => rfl
    | succ i =>
      rw [show (i + 1) * 2 + 1 = i * 2 + 1 + 1 + 1 by omega, List.getElem?_cons_succ, List.getElem?_cons_succ]
      simpa using ih i (by simpa using h)

theorem Try.info40 : (Try.prog.info? 40).map (fun i => (i.zero, i.size, i.bytes)) = some (some (.agg #[.int .i64 0, .int .i64 0]), 2, 16) := by kernel_rfl

theorem made_two (n : Nat) : madeCells (Value.agg #[.int .i64 0, .int .i64 0]).cells (n * 2) = (zeros (n * 2)).toArray := by
  apply Array.ext'
  apply List.ext_getElem?
  intro j
  by_cases hj : j < n * 2
  · have : j % 2 = 0 ∨ j % 2 = 1 := by omega
    rcases this with h | h <;> simp [madeCells, zeros, hj, h, Value.cells]
  · simp [madeCells, zeros, hj]

theorem make38 (n : Nat) (hn : n ≤ 65536) (w : World) : (Instr.makeSlice 38 (.int .i64 (n : Int)) (.int .i64 (n : Int))).run Try.prog w =
    .ok (.slice (some ⟨w.heap.size, 0, none⟩) n n) (w.alloc (.cells (zeros (n * 2)).toArray 40)) := by
  obtain ⟨i, hi, hz0, hz1, hz2⟩ := info_parts Try.info40
  have hr := run_make (P := Try.prog) w 38 40 i _ Try.underlying38 hi hz0 .i64 .i64 (n : Int) (n : Int) (by omega) (by omega) (by rw [hz2]; omega) (by omega)
  rw [hr, hz1]
  simp only [Int.toNat_natCast]
  rw [made_two]

/-- A countingSet: its own block p, its runs' block g. -/
structure CSet (w : World) (p g cap : Nat) (ps : List (Int × Int)) (h : Int) : Prop where
  own : Blk w p [.slice (some ⟨g, 0, none⟩) ps.length cap, .int .i64 h] 42
  runs : ∃ rest, Blk w g (flat ps ++ rest) 40 ∧ (flat ps ++ rest).length = cap * 2
  ne : p ≠ g
  le : ps.length ≤ cap

/-- The new countingSet. -/
def OfRet (ps : List (Int × Int)) (h : Int) (w : World) (e : Ending) (w' : World) : Prop := ∃ p g, e = .returned (.pointer (some ⟨p, 0, none⟩)) ∧ CSet w' p g ps.length ps h ∧ w.heap.size ≤ p ∧ w.heap.size ≤ g ∧ Below w.heap.size w w'

/-- The runs behind k rounds. -/
def grow (n : Nat) (ps : List (Int × Int)) (k : Nat) : List Value := flat (ps.take k) ++ zeros ((n - k) * 2)

theorem grow_len {n : Nat} {ps : List (Int × Int)} {k : Nat} (h : ps.length = n) (hk : k ≤ n) : (flat (ps.take k)).length = k * 2 := by
  rw [flat_length, List.length_take]; omega
theorem grow_get {n : Nat} {ps : List (Int × Int)} {k : Nat} (h : ps.length = n) (hk : k < n) (j : Nat) (hj : j < 2) : (grow n ps k)[k * 2 + j]? = some (.int .i64 0) := by
  have e1 := grow_len h (Nat.le_of_lt hk)
  unfold grow
  rw [List.getElem?_append_right (by omega), e1, zeros, List.getElem?_replicate, if_pos (by omega)]
theorem grow_set {n : Nat} {ps : List (Int × Int)} {k : Nat} (h : ps.length = n) (hk : k < n) : ((grow n ps k).set (k * 2) (.int .i64 ((ps.map (·.1)).getD k 0))).set (k * 2 + 1) (.int .i64 ((ps.map (·.2)).getD k 0)) = grow n ps (k + 1) := by
  have e1 := grow_len h (Nat.le_of_lt hk)
  have e2 : (n - k) * 2 = (n - (k + 1)) * 2 + 1 + 1 := by omega
  have e3 : ps.take (k + 1) = ps.take k ++ [ps[k]] := List.take_succ_eq_append_getElem (by omega)
  have e4 : (ps.map (·.1)).getD k 0 = ps[k].1 := by simp [List.getD, show k < ps.length by omega]
  have e5 : (ps.map (·.2)).getD k 0 = ps[k].2 := by simp [List.getD, show k < ps.length by omega]
  rw [e4, e5]
  unfold grow
  rw [List.set_append_right _ _ (by omega), List.set_append_right _ _ (by omega), e1, e2, Nat.sub_self, show k * 2 + 1 - k * 2 = 1 by omega, e3, flat_append]
  simp [zeros, List.replicate_succ, flat]
theorem grow_full {n : Nat} {ps : List (Int × Int)} (h : ps.length = n) : grow n ps n = flat ps ++ [] := by
  simp [grow, zeros, List.take_of_length_le (Nat.le_of_eq h)]
theorem grow_next {w wr : World} {n g k : Nat} {ps : List (Int × Int)} (h : ps.length = n) (hk : k < n) (hb : Blk wr g (grow n ps k) 40) (hbe : Below g w wr) (f l : Int) (hf : (ps.map (·.1)).getD k 0 = f) (hl : (ps.map (·.2)).getD k 0 = l) :
    Blk ((wr.setCell ⟨g, k * 2, none⟩ (.int .i64 f)).setCell ⟨g, k * 2 + 1, none⟩ (.int .i64 l)).drew g (grow n ps (k + 1)) 40 ∧
    Below g w ((wr.setCell ⟨g, k * 2, none⟩ (.int .i64 f)).setCell ⟨g, k * 2 + 1, none⟩ (.int .i64 l)).drew := by
  subst hf hl
  refine ⟨?_, ((hbe.setCell (Nat.le_refl _) _).setCell (Nat.le_refl _) _).drew⟩
  have h1 := ((hb.set (k * 2) (.int .i64 ((ps.map (·.1)).getD k 0))).set (k * 2 + 1) (.int .i64 ((ps.map (·.2)).getD k 0))).drew
  rwa [grow_set h hk] at h1

theorem cset_new {w wr : World} {n : Nat} {ps : List (Int × Int)} (h : Int) (hl : ps.length = n) (hb : Blk wr w.heap.size (grow n ps n) 40) (hbe : Below w.heap.size w wr) :
    CSet (wr.alloc (.cells #[.slice (some ⟨w.heap.size, 0, none⟩) n n, .int .i64 h] 42)) wr.heap.size w.heap.size ps.length ps h ∧ Below w.heap.size w (wr.alloc (.cells #[.slice (some ⟨w.heap.size, 0, none⟩) n n, .int .i64 h] 42)) := by
  subst hl
  have hlt := hb.lt
  rw [grow_full rfl] at hb
  exact ⟨⟨Blk.new wr [.slice (some ⟨w.heap.size, 0, none⟩) ps.length ps.length, .int .i64 h] 42, ⟨[], hb.alloc _, by simp [flat_length]; omega⟩, by omega, Nat.le_refl _⟩, hbe.alloc (by omega) _⟩

theorem of_any (a0 a1 : Option Addr) (n c0 c1 : Nat) (h : Int) (ps : List (Int × Int)) (w : World) (h0 : Row .i64 w a0 n (ps.map (·.1))) (h1 : Row .i64 w a1 n (ps.map (·.2))) (hn : n ≤ 65536) :
    Calls Try.prog 18 #[.slice a0 n c0, .slice a1 n c1, .int .i64 h] w (OfRet ps h w) := by
  have H0 : Hid (Row .i64 w a0 n (ps.map (·.1))) := h0
  have H1 : Hid (Row .i64 w a1 n (ps.map (·.2))) := h1
  have HL : Hid (ps.length = n) := hid (by have := h0.1; simpa using this)
  clear h0 h1
  have hmk := make38 n hn
  go_enter Try.func18, Try.ntmps18
  go_wp2
  clear hmk
  go_loopw [8] (fun i wr => ∃ k : Nat, k ≤ n ∧ i = .int .i64 k ∧ Hid (Blk wr w.heap.size (grow n ps k) 40) ∧ Below w.heap.size w wr) (fun i _ => n - (intOf i).toNat)
  case atStart => exact ⟨0, Nat.zero_le _, rfl, hid (by simpa [grow, flat] using Blk.new w (zeros (n * 2)) 40), (Below.refl _ _).alloc (Nat.le_refl _) _⟩
  case round =>
    obtain ⟨k, hk, rfl, hblk, hb⟩ := hrel
    by_cases hlt : k < n
    · obtain ⟨b0, o0, e0, hb0, hc0⟩ := H0.out.2 (by omega)
      obtain ⟨b1, o1, e1, hb1, hc1⟩ := H1.out.2 (by omega)
      subst e0 e1
      have c0k : wr.cell? ⟨b0, o0 + k, none⟩ = some (.int .i64 ((ps.map (·.1)).getD k 0)) := by rw [hb.cell (p := ⟨b0, o0 + k, none⟩) hb0]; exact hc0 k hlt
      have c1k : wr.cell? ⟨b1, o1 + k, none⟩ = some (.int .i64 ((ps.map (·.2)).getD k 0)) := by rw [hb.cell (p := ⟨b1, o1 + k, none⟩) hb1]; exact hc1 k hlt
      clear hc0 hc1
      obtain ⟨f, hf⟩ : ∃ f, Hid ((ps.map (·.1)).getD k 0 = f) := ⟨_, rfl⟩
      obtain ⟨l, hl⟩ : ∃ l, Hid ((ps.map (·.2)).getD k 0 = l) := ⟨_, rfl⟩
      rw [hf.out] at c0k
      rw [hl.out] at c1k
      have hlt' : (k : Int) < (n : Int) := by omega
      have g0 : wr.cell? ⟨w.heap.size, k * 2, none⟩ = some (.int .i64 0) := by rw [hblk.out.cell]; exact grow_get HL.out hlt 0 (by omega)
      have g1 : wr.cell? ⟨w.heap.size, k * 2 + 1, none⟩ = some (.int .i64 0) := by rw [hblk.out.cell]; exact grow_get HL.out hlt 1 (by omega)
      have f0 := hblk.out.frozen (k * 2)
      have f1 := hblk.out.frozen (k * 2 + 1)
      go_wp2
      go_region
      all_goals go_wp2
      go_roundw
      case rel =>
        have hh := grow_next HL.out hlt hblk.out hb f l hf.out hl.out
        exact ⟨k + 1, by omega, by go_num, hh.1, hh.2⟩
      case measure => simp [intOf]; omega
    · have ek : k = n := by omega
      subst ek
      go_wp2
      go_ret
      have hh := cset_new h HL.out hblk.out hb
      exact ⟨wr.heap.size, w.heap.size, rfl, hh.1, hb.size, Nat.le_refl _, hh.2⟩

theorem CSet.first {w : World} {p g cap : Nat} {ps : List (Int × Int)} {h : Int} (c : CSet w p g cap ps h) (i : Nat) (hi : i < ps.length) : w.cell? ⟨g, i * 2, none⟩ = some (.int .i64 (ps.getD i (0, 0)).1) := by
  obtain ⟨rest, hb, _⟩ := c.runs
  rw [hb.cell, List.getElem?_append_left (by rw [flat_length]; omega)]
  exact flat_first ps i hi
theorem CSet.last {w : World} {p g cap : Nat} {ps : List (Int × Int)} {h : Int} (c : CSet w p g cap ps h) (i : Nat) (hi : i < ps.length) : w.cell? ⟨g, i * 2 + 1, none⟩ = some (.int .i64 (ps.getD i (0, 0)).2) := by
  obtain ⟨rest, hb, _⟩ := c.runs
  rw [hb.cell, List.getElem?_append_left (by rw [flat_length]; omega)]
  exact flat_last ps i hi
theorem CSet.frozen {w : World} {p g cap : Nat} {ps : List (Int × Int)} {h : Int} (c : CSet w p g cap ps h) (j : Nat) : w.frozen? ⟨g, j, none⟩ = false := by
  obtain ⟨rest, hb, _⟩ := c.runs
  exact hb.frozen j
theorem CSet.lt {w : World} {p g cap : Nat} {ps : List (Int × Int)} {h : Int} (c : CSet w p g cap ps h) : p < w.heap.size ∧ g < w.heap.size := by
  obtain ⟨rest, hb, _⟩ := c.runs
  exact ⟨c.own.lt, hb.lt⟩
theorem CSet.slot0 {w : World} {p g cap : Nat} {ps : List (Int × Int)} {h : Int} (c : CSet w p g cap ps h) : w.cell? ⟨p, 0, none⟩ = some (.slice (some ⟨g, 0, none⟩) ps.length cap) := by rw [c.own.cell]; rfl
theorem CSet.slot1 {w : World} {p g cap : Nat} {ps : List (Int × Int)} {h : Int} (c : CSet w p g cap ps h) : w.cell? ⟨p, 1, none⟩ = some (.int .i64 h) := by rw [c.own.cell]; rfl

/-- Two new slices and the head. -/
def PartsRet (ps : List (Int × Int)) (h : Int) (w : World) (e : Ending) (w' : World) : Prop := ∃ a0 a1, e = .returned (.tuple #[.slice a0 ps.length ps.length, .slice a1 ps.length ps.length, .int .i64 h]) ∧
  Row .i64 w' a0 ps.length (ps.map (·.1)) ∧ Row .i64 w' a1 ps.length (ps.map (·.2)) ∧ Below w.heap.size w w'

theorem part_next {w wr : World} {n g k : Nat} {xs ys : List Int} (hx : xs.length = n) (hy : ys.length = n) (hk : k < n) (h0 : Blk wr g (part n xs k) 3) (h1 : Blk wr (g + 1) (part n ys k) 3) (hbe : Below g w wr) (f l : Int) (hf : xs.getD k 0 = f) (hl : ys.getD k 0 = l) :
    Blk ((wr.setCell ⟨g, k, none⟩ (.int .i64 f)).setCell ⟨g + 1, k, none⟩ (.int .i64 l)) g (part n xs (k + 1)) 3 ∧ Blk ((wr.setCell ⟨g, k, none⟩ (.int .i64 f)).setCell ⟨g + 1, k, none⟩ (.int .i64 l)) (g + 1) (part n ys (k + 1)) 3 ∧
    Below g w ((wr.setCell ⟨g, k, none⟩ (.int .i64 f)).setCell ⟨g + 1, k, none⟩ (.int .i64 l)) := by
  subst hf hl
  refine ⟨?_, ?_, (hbe.setCell (Nat.le_refl _) _).setCell (by simp) _⟩
  · have hh := (h0.set k (.int .i64 (xs.getD k 0))).other (g' := g + 1) (by omega) k (.int .i64 (ys.getD k 0))
    rwa [part_set hx hk] at hh
  · have hh := (h1.other (g' := g) (by omega) k (.int .i64 (xs.getD k 0))).set k (.int .i64 (ys.getD k 0))
    rwa [part_set hy hk] at hh

theorem parts_any (p g cap n : Nat) (h : Int) (ps : List (Int × Int)) (w : World) (hc : CSet w p g cap ps h) (hl : ps.length = n) (hn : n ≤ 65536) :
    Calls Try.prog 20 #[.pointer (some ⟨p, 0, none⟩)] w (PartsRet ps h w) := by
  have HC : Hid (CSet w p g cap ps h) := hc
  have HL : Hid (ps.length = n) := hl
  have s0 := hc.slot0
  rw [hl] at s0
  obtain ⟨lp, lg⟩ := hc.lt
  have hmk := make22 n n (Nat.le_refl _) hn
  clear hc hl
  go_enter Try.func20, Try.ntmps20
  go_wp2
  clear hmk
  go_loopw [7] (fun i wr => ∃ k : Nat, k ≤ n ∧ i = .int .i64 k ∧ Hid (Blk wr w.heap.size (part n (ps.map (·.1)) k) 3) ∧ Hid (Blk wr (w.heap.size + 1) (part n (ps.map (·.2)) k) 3) ∧ Below w.heap.size w wr) (fun i _ => n - (intOf i).toNat)
  case atStart =>
    refine ⟨0, Nat.zero_le _, rfl, hid ?_, hid ?_, ((Below.refl _ _).alloc (Nat.le_refl _) _).alloc (by simp) _⟩
    · rw [part_zero]; exact (Blk.new _ _ _).alloc _
    · rw [part_zero]
      have := Blk.new (w.alloc (.cells (zeros n).toArray 3)) (zeros n) 3
      simpa using this
  case round =>
    obtain ⟨k, hk, rfl, hblk0, hblk1, hb⟩ := hrel
    have t0 : wr.cell? ⟨p, 0, none⟩ = some (.slice (some ⟨g, 0, none⟩) n cap) := by rw [hb.cell (p := ⟨p, 0, none⟩) lp]; exact s0
    have t1 : wr.cell? ⟨p, 1, none⟩ = some (.int .i64 h) := by rw [hb.cell (p := ⟨p, 1, none⟩) lp]; exact HC.out.slot1
    by_cases hlt : k < n
    · have e1 : (ps.map (·.1)).getD k 0 = (ps.getD k (0, 0)).1 := by simp [List.getD, show k < ps.length by rw [HL.out]; exact hlt]
      have e2 : (ps.map (·.2)).getD k 0 = (ps.getD k (0, 0)).2 := by simp [List.getD, show k < ps.length by rw [HL.out]; exact hlt]
      have c0k : wr.cell? ⟨g, k * 2, none⟩ = some (.int .i64 (ps.getD k (0, 0)).1) := by rw [hb.cell (p := ⟨g, k * 2, none⟩) lg]; exact HC.out.first k (by rw [HL.out]; exact hlt)
      have c1k : wr.cell? ⟨g, k * 2 + 1, none⟩ = some (.int .i64 (ps.getD k (0, 0)).2) := by rw [hb.cell (p := ⟨g, k * 2 + 1, none⟩) lg]; exact HC.out.last k (by rw [HL.out]; exact hlt)
      rw [← e1] at c0k
      rw [← e2] at c1k
      clear e1 e2
      obtain ⟨f, hf⟩ : ∃ f, Hid ((ps.map (·.1)).getD k 0 = f) := ⟨_, rfl⟩
      obtain ⟨l, hl⟩ : ∃ l, Hid ((ps.map (·.2)).getD k 0 = l) := ⟨_, rfl⟩
      rw [hf.out] at c0k
      rw [hl.out] at c1k
      have hlt' : (k : Int) < (n : Int) := by omega
      have hx : Hid ((ps.map (·.1)).length = n) := hid (by rw [List.length_map]; exact HL.out)
      have hy : Hid ((ps.map (·.2)).length = n) := hid (by rw [List.length_map]; exact HL.out)
      have g0 : wr.cell? ⟨w.heap.size, k, none⟩ = some (.int .i64 0) := by rw [hblk0.out.cell]; exact part_get hx.out hlt
      have g1 : wr.cell? ⟨w.heap.size + 1, k, none⟩ = some (.int .i64 0) := by rw [hblk1.out.cell]; exact part_get hy.out hlt
      have f0 := hblk0.out.frozen k
      have f1 := hblk1.out.frozen k
      go_wp2
      go_roundw
      case rel =>
        have hh := part_next hx.out hy.out hlt hblk0.out hblk1.out hb f l hf.out hl.out
        exact ⟨k + 1, by omega, by go_num, hh.1, hh.2.1, hh.2.2⟩
      case measure => simp [intOf]; omega
    · have ek : k = n := by omega
      subst ek
      have R0 : Hid (Row .i64 wr (some ⟨w.heap.size, 0, none⟩) k (ps.map (·.1))) := by
        have h1 := hblk0.out
        rw [part_full (by rw [List.length_map]; exact HL.out)] at h1
        have h2 := Row.ofBlk h1
        rw [List.length_map, HL.out] at h2
        exact h2
      have R1 : Hid (Row .i64 wr (some ⟨w.heap.size + 1, 0, none⟩) k (ps.map (·.2))) := by
        have h1 := hblk1.out
        rw [part_full (by rw [List.length_map]; exact HL.out)] at h1
        have h2 := Row.ofBlk h1
        rw [List.length_map, HL.out] at h2
        exact h2
      go_wp2
      go_quiet (fail)
      go_wp2
      go_ret3
      unfold PartsRet
      rw [HL.out]
      exact ⟨some ⟨w.heap.size, 0, none⟩, some ⟨w.heap.size + 1, 0, none⟩, rfl, R0.out, R1.out, below_drewN hb _⟩
end Go.Proofs.Qxb6602619a
