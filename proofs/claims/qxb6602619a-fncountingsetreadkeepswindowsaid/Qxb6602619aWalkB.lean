import Derived.Test.Qxb6602619aWalkA
namespace Go.Proofs.Qxb6602619a
open Go.RowKit Mem Plain

/-- The two new slices of the pieces. -/
def ClipRet (ps : List (Int × Int)) (w : World) (e : Ending) (w' : World) : Prop := ∃ a0 c0 a1 c1, e = .returned (.tuple #[.slice a0 ps.length c0, .slice a1 ps.length c1]) ∧
  Row .i64 w' a0 ps.length (ps.map (·.1)) ∧ Row .i64 w' a1 ps.length (ps.map (·.2)) ∧ Below w.heap.size w w'

/-- A row that is being filled: xs, and room up to n. -/
def fill (n : Nat) (xs : List Int) : List Value := ints .i64 xs ++ zeros (n - xs.length)
theorem fill_nil (n : Nat) : fill n [] = zeros n := by simp [fill, ints]
theorem fill_get {n : Nat} {xs : List Int} (h : xs.length < n) : (fill n xs)[xs.length]? = some (.int .i64 0) := by
  have e1 : (ints .i64 xs).length = xs.length := by simp [ints]
  unfold fill
  rw [List.getElem?_append_right (by omega), e1, Nat.sub_self, zeros, List.getElem?_replicate, if_pos (by omega)]
theorem fill_set {n : Nat} {xs : List Int} (h : xs.length < n) (x : Int) : (fill n xs).set xs.length (.int .i64 x) = fill n (xs ++ [x]) := by
  have e1 : (ints .i64 xs).length = xs.length := by simp [ints]
  have e2 : n - xs.length = (n - (xs ++ [x]).length) + 1 := by simp; omega
  unfold fill
  rw [List.set_append_right _ _ (by omega), e1, Nat.sub_self, e2]
  simp only [zeros, List.replicate_succ, List.set_cons_zero, ints, List.map_append, List.map_cons, List.map_nil, List.append_assoc, List.cons_append, List.nil_append]

theorem clip_keep {w wr : World} {g n m : Nat} {xs ys : List Int} (ho0 : Blk wr g (fill n xs) 3) (ho1 : Blk wr (g + 1) (fill n ys) 3) (hb : Below g w wr) (hx : xs.length = m) (hy : ys.length = m) (hm : m < n) (f l : Int) (A B : Obj) :
    Blk ((((wr.setCell ⟨g, m, none⟩ (.int .i64 f)).setCell ⟨g + 1, m, none⟩ (.int .i64 l)).alloc A).alloc B) g (fill n (xs ++ [f])) 3 ∧
    Blk ((((wr.setCell ⟨g, m, none⟩ (.int .i64 f)).setCell ⟨g + 1, m, none⟩ (.int .i64 l)).alloc A).alloc B) (g + 1) (fill n (ys ++ [l])) 3 ∧
    Below g w ((((wr.setCell ⟨g, m, none⟩ (.int .i64 f)).setCell ⟨g + 1, m, none⟩ (.int .i64 l)).alloc A).alloc B) := by
  have hlt := ho0.lt
  refine ⟨?_, ?_, ?_⟩
  · have h1 := (((ho0.set m (.int .i64 f)).other (g' := g + 1) (by omega) m (.int .i64 l)).alloc A).alloc B
    subst hx
    rwa [fill_set hm] at h1
  · have h1 := (((ho1.other (g' := g) (by omega) m (.int .i64 f)).set m (.int .i64 l)).alloc A).alloc B
    subst hy
    rwa [fill_set hm] at h1
  · exact (((hb.setCell (Nat.le_refl _) _).setCell (by simp) _).alloc (by simp; omega) _).alloc (by simp; omega) _

/-- One round of the clip: all that the relation wants at k + 1. -/
theorem clip_next {P : List (Int × Int)} {w wr : World} {g n m : Nat} (ho0 : Blk wr g (fill n (P.map (·.1))) 3) (ho1 : Blk wr (g + 1) (fill n (P.map (·.2))) 3) (hb : Below g w wr) (hm : m = P.length) (hmn : m < n) (f l : Int) (A B : Obj) :
    m + 1 = (P ++ [(f, l)]).length ∧ Blk ((((wr.setCell ⟨g, m, none⟩ (.int .i64 f)).setCell ⟨g + 1, m, none⟩ (.int .i64 l)).alloc A).alloc B) g (fill n ((P ++ [(f, l)]).map (·.1))) 3 ∧
    Blk ((((wr.setCell ⟨g, m, none⟩ (.int .i64 f)).setCell ⟨g + 1, m, none⟩ (.int .i64 l)).alloc A).alloc B) (g + 1) (fill n ((P ++ [(f, l)]).map (·.2))) 3 ∧
    Below g w ((((wr.setCell ⟨g, m, none⟩ (.int .i64 f)).setCell ⟨g + 1, m, none⟩ (.int .i64 l)).alloc A).alloc B) := by
  have h := clip_keep ho0 ho1 hb (by simp [hm]) (by simp [hm]) hmn f l A B
  refine ⟨by simp [hm], ?_, ?_, h.2.2⟩
  · simpa using h.1
  · simpa using h.2.1

theorem fill_row {w : World} {g n m : Nat} {xs : List Int} (h : Blk w g (fill n xs) 3) (hm : m = xs.length) : Row .i64 w (some ⟨g, 0, none⟩) m xs := by
  subst hm
  exact Row.ofBlk h

set_option maxHeartbeats 1600000 in
theorem clip_any (a0 a1 : Option Addr) (n c0 c1 : Nat) (lo hi : Int) (fs ls : List Int) (w : World) (h0 : Row .i64 w a0 n fs) (h1 : Row .i64 w a1 n ls) (hn : n ≤ 65536) :
    Calls Try.prog 15 #[.slice a0 n c0, .slice a1 n c1, .int .i64 lo, .int .i64 hi] w (ClipRet (clip lo hi fs ls n) w) := by
  have H0 : Hid (Row .i64 w a0 n fs) := h0
  have H1 : Hid (Row .i64 w a1 n ls) := h1
  clear h0 h1
  have hmk := make22 n 0 (Nat.zero_le _) hn
  simp only [Int.natCast_zero] at hmk
  go_enter Try.func15, Try.ntmps15
  go_wp2
  clear hmk
  go_loopw [10, 11, 12] (fun rf rl i wr => ∃ k m : Nat, k ≤ n ∧ m ≤ k ∧ Hid (m = (clip lo hi fs ls k).length) ∧ i = .int .i64 k ∧ rf = .slice (some ⟨w.heap.size, 0, none⟩) m n ∧ rl = .slice (some ⟨w.heap.size + 1, 0, none⟩) m n ∧
    Hid (Blk wr w.heap.size (fill n ((clip lo hi fs ls k).map (·.1))) 3) ∧ Hid (Blk wr (w.heap.size + 1) (fill n ((clip lo hi fs ls k).map (·.2))) 3) ∧
    Below w.heap.size w wr) (fun _ _ i _ => n - (intOf i).toNat)
  case atStart =>
    refine ⟨0, 0, Nat.zero_le _, Nat.le_refl _, rfl, rfl, rfl, rfl, hid ?_, hid ?_, ((Below.refl _ _).alloc (Nat.le_refl _) _).alloc (by simp) _⟩
    · simp only [clip, List.map_nil, fill_nil]
      exact (Blk.new _ _ _).alloc _
    · simp only [clip, List.map_nil, fill_nil]
      have := Blk.new (w.alloc (.cells (zeros n).toArray 3)) (zeros n) 3
      simpa using this
  case round =>
    obtain ⟨k, m, hk, hmk, hm, rfl, rfl, rfl, ho0, ho1, hb⟩ := hrel
    by_cases hlt : k < n
    · obtain ⟨b0, o0, e0, hb0, hc0⟩ := H0.out.2 (by omega)
      obtain ⟨b1, o1, e1, hb1, hc1⟩ := H1.out.2 (by omega)
      subst e0 e1
      have c0k : wr.cell? ⟨b0, o0 + k, none⟩ = some (.int .i64 (fs.getD k 0)) := by rw [hb.cell (p := ⟨b0, o0 + k, none⟩) hb0]; exact hc0 k hlt
      have c1k : wr.cell? ⟨b1, o1 + k, none⟩ = some (.int .i64 (ls.getD k 0)) := by rw [hb.cell (p := ⟨b1, o1 + k, none⟩) hb1]; exact hc1 k hlt
      clear hc0 hc1
      have hlt' : (k : Int) < (n : Int) := by omega
      have hs0 : w.heap.size < wr.heap.size := ho0.out.lt
      have hs1 : w.heap.size + 1 < wr.heap.size := ho1.out.lt
      have d0 : wr.cell? ⟨w.heap.size, m, none⟩ = some (.int .i64 0) := by
        rw [ho0.out.cell, hm.out]
        have := fill_get (n := n) (xs := (clip lo hi fs ls k).map (·.1)) (by rw [List.length_map, ← hm.out]; omega)
        simpa using this
      have d1 : wr.cell? ⟨w.heap.size + 1, m, none⟩ = some (.int .i64 0) := by
        rw [ho1.out.cell, hm.out]
        have := fill_get (n := n) (xs := (clip lo hi fs ls k).map (·.2)) (by rw [List.length_map, ← hm.out]; omega)
        simpa using this
      have f0 := ho0.out.frozen m
      have f1 := ho1.out.frozen m
      have hpc : Hid (clip lo hi fs ls (k + 1) = clip lo hi fs ls k ++ piece lo hi (fs.getD k 0) (ls.getD k 0)) := rfl
      generalize fs.getD k 0 = f at c0k hpc
      generalize ls.getD k 0 = l at c1k hpc
      have HLO : Hid (f < lo → cutLo lo f = lo) := fun h => if_pos h
      have HLF : Hid (¬ f < lo → cutLo lo f = f) := fun h => if_neg h
      have HHI : Hid (hi < l → cutHi hi l = hi) := fun h => if_pos h
      have HHL : Hid (¬ hi < l → cutHi hi l = l) := fun h => if_neg h
      by_cases hf : f < lo
      · by_cases hl : hi < l
        · by_cases hle : lo ≤ hi
          · have HP : Hid (clip lo hi fs ls (k + 1) = clip lo hi fs ls k ++ [(lo, hi)]) := by
              show _ = _
              rw [hpc.out, piece_yes (HLO.out hf) (HHI.out hl) hle]
            go_wp2_with fail
            go_roundw
            case rel =>
              have h := clip_next ho0.out ho1.out hb hm.out (by omega) lo hi (Obj.cells #[Value.int IntKind.i64 lo] 3) (Obj.cells #[Value.int IntKind.i64 hi] 3)
              rw [← HP.out] at h
              exact ⟨k + 1, m + 1, by omega, by omega, h.1, by go_num, rfl, rfl, h.2.1, h.2.2.1, h.2.2.2⟩
            case measure => simp [intOf]; omega
          · have HP : Hid (clip lo hi fs ls (k + 1) = clip lo hi fs ls k) := by
              show _ = _
              rw [hpc.out, piece_no (HLO.out hf) (HHI.out hl) hle, List.append_nil]
            go_wp2_with fail
            go_roundw
            case rel => exact ⟨k + 1, m, by omega, by omega, hid (by rw [HP.out]; exact hm.out), by go_num, rfl, rfl, hid (by rw [HP.out]; exact ho0.out), hid (by rw [HP.out]; exact ho1.out), hb⟩
            case measure => simp [intOf]; omega
        · by_cases hle : lo ≤ l
          · have HP : Hid (clip lo hi fs ls (k + 1) = clip lo hi fs ls k ++ [(lo, l)]) := by
              show _ = _
              rw [hpc.out, piece_yes (HLO.out hf) (HHL.out hl) hle]
            go_wp2_with fail
            go_roundw
            case rel =>
              have h := clip_next ho0.out ho1.out hb hm.out (by omega) lo l (Obj.cells #[Value.int IntKind.i64 lo] 3) (Obj.cells #[Value.int IntKind.i64 l] 3)
              rw [← HP.out] at h
              exact ⟨k + 1, m + 1, by omega, by omega, h.1, by go_num, rfl, rfl, h.2.1, h.2.2.1, h.2.2.2⟩
            case measure => simp [intOf]; omega
          · have HP : Hid (clip lo hi fs ls (k + 1) = clip lo hi fs ls k) := by
              show _ = _
              rw [hpc.out, piece_no (HLO.out hf) (HHL.out hl) hle, List.append_nil]
            go_wp2_with fail
            go_roundw
            case rel => exact ⟨k + 1, m, by omega, by omega, hid (by rw [HP.out]; exact hm.out), by go_num, rfl, rfl, hid (by rw [HP.out]; exact ho0.out), hid (by rw [HP.out]; exact ho1.out), hb⟩
            case measure => simp [intOf]; omega
      · by_cases hl : hi < l
        · by_cases hle : f ≤ hi
          · have HP : Hid (clip lo hi fs ls (k + 1) = clip lo hi fs ls k ++ [(f, hi)]) := by
              show _ = _
              rw [hpc.out, piece_yes (HLF.out hf) (HHI.out hl) hle]
            go_wp2_with fail
            go_roundw
            case rel =>
              have h := clip_next ho0.out ho1.out hb hm.out (by omega) f hi (Obj.cells #[Value.int IntKind.i64 f] 3) (Obj.cells #[Value.int IntKind.i64 hi] 3)
              rw [← HP.out] at h
              exact ⟨k + 1, m + 1, by omega, by omega, h.1, by go_num, rfl, rfl, h.2.1, h.2.2.1, h.2.2.2⟩
            case measure => simp [intOf]; omega
          · have HP : Hid (clip lo hi fs ls (k + 1) = clip lo hi fs ls k) := by
              show _ = _
              rw [hpc.out, piece_no (HLF.out hf) (HHI.out hl) hle, List.append_nil]
            go_wp2_with fail
            go_roundw
            case rel => exact ⟨k + 1, m, by omega, by omega, hid (by rw [HP.out]; exact hm.out), by go_num, rfl, rfl, hid (by rw [HP.out]; exact ho0.out), hid (by rw [HP.out]; exact ho1.out), hb⟩
            case measure => simp [intOf]; omega
        · by_cases hle : f ≤ l
          · have HP : Hid (clip lo hi fs ls (k + 1) = clip lo hi fs ls k ++ [(f, l)]) := by
              show _ = _
              rw [hpc.out, piece_yes (HLF.out hf) (HHL.out hl) hle]
            go_wp2_with fail
            go_roundw
            case rel =>
              have h := clip_next ho0.out ho1.out hb hm.out (by omega) f l (Obj.cells #[Value.int IntKind.i64 f] 3) (Obj.cells #[Value.int IntKind.i64 l] 3)
              rw [← HP.out] at h
              exact ⟨k + 1, m + 1, by omega, by omega, h.1, by go_num, rfl, rfl, h.2.1, h.2.2.1, h.2.2.2⟩
            case measure => simp [intOf]; omega
          · have HP : Hid (clip lo hi fs ls (k + 1) = clip lo hi fs ls k) := by
              show _ = _
              rw [hpc.out, piece_no (HLF.out hf) (HHL.out hl) hle, List.append_nil]
            go_wp2_with fail
            go_roundw
            case rel => exact ⟨k + 1, m, by omega, by omega, hid (by rw [HP.out]; exact hm.out), by go_num, rfl, rfl, hid (by rw [HP.out]; exact ho0.out), hid (by rw [HP.out]; exact ho1.out), hb⟩
            case measure => simp [intOf]; omega
    · have ek : k = n := by omega
      subst ek
      have R0 : Hid (Row .i64 wr (some ⟨w.heap.size, 0, none⟩) m ((clip lo hi fs ls k).map (·.1))) := fill_row ho0.out (by rw [List.length_map]; exact hm.out)
      have R1 : Hid (Row .i64 wr (some ⟨w.heap.size + 1, 0, none⟩) m ((clip lo hi fs ls k).map (·.2))) := fill_row ho1.out (by rw [List.length_map]; exact hm.out)
      go_wp2
      go_ret2
      unfold ClipRet
      rw [← hm.out]
      exact ⟨some ⟨w.heap.size, 0, none⟩, k, some ⟨w.heap.size + 1, 0, none⟩, k, rfl, R0.out, R1.out, hb⟩
end Go.Proofs.Qxb6602619a
