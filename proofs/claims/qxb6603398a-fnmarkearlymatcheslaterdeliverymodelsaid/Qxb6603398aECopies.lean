/-
  'make' and 'copy' of a whole slice, in one step; lists of Bools in memory; append to a row of one's own, as one step of a region that draws. (For the law of markEarly.)
-/
import Derived.Test.Qxb6603398aRows
import Derived.Test.Qxb6603398aMem
import Derived.Test.Qxb6603398aWalkOf
import Derived.Deep.RegionLaw
import Derived.Laws.AppendOwn
import Derived.Lib.AppendZeros
namespace Go.Proofs.Qxb6603398a.E
open Go.RowKit Mem
set_option linter.unusedVariables false

theorem info4 : (Try.prog.info? 4).map (fun i => (i.zero, i.size, i.bytes)) = some (some (.bool false), 1, 1) := by kernel_rfl
/-- n times false. -/
def falses (n : Nat) : List Value := List.replicate n (.bool false)
theorem make32 (n : Nat) (hn : n ≤ 1048576) (w : World) : (Instr.makeSlice 32 (.int .i64 (n : Int)) (.int .i64 (n : Int))).run Try.prog w =
    .ok (.slice (some ⟨w.heap.size, 0, none⟩) n n) (w.alloc (.cells (falses n).toArray 4)) := by
  obtain ⟨i, hi, hz0, hz1, hz2⟩ := info_parts info4
  have hr := run_make (P := Try.prog) w 32 4 i (.bool false) Try.underlying32 hi hz0 .i64 .i64 (n : Int) (n : Int) (by omega) (by omega) (by rw [hz2]; omega) (by omega)
  rw [hr, hz1]
  simp only [Int.toNat_natCast, Nat.mul_one]
  rw [replicate_made _ rfl]
  rfl


theorem info3 : (Try.prog.info? 3).map (fun i => (i.zero, i.size, i.bytes)) = some (some (.int .i64 0), 1, 8) := by kernel_rfl
/-- n zeros of a kind. -/
def zrs (k : IntKind) (n : Nat) : List Value := List.replicate n (.int k 0)
theorem zrs_ints (k : IntKind) (n : Nat) : zrs k n = ints k (List.replicate n 0) := by simp [zrs, ints]
theorem make29 (m n : Nat) (hm : m ≤ n) (hn : n ≤ 2097152) (w : World) : (Instr.makeSlice 29 (.int .i64 (m : Int)) (.int .i64 (n : Int))).run Try.prog w =
    .ok (.slice (some ⟨w.heap.size, 0, none⟩) m n) (w.alloc (.cells (zrs .i32 n).toArray 21)) := by
  obtain ⟨i, hi, hz0, hz1, hz2⟩ := info_parts Try.info21
  have hr := run_make (P := Try.prog) w 29 21 i (.int .i32 0) Try.underlying29 hi hz0 .i64 .i64 (m : Int) (n : Int) (by omega) (by omega) (by rw [hz2]; omega) (by omega)
  rw [hr, hz1]
  simp only [Int.toNat_natCast, Nat.mul_one]
  rw [replicate_made _ rfl]
  rfl
theorem make30 (m n : Nat) (hm : m ≤ n) (hn : n ≤ 2097152) (w : World) : (Instr.makeSlice 30 (.int .i64 (m : Int)) (.int .i64 (n : Int))).run Try.prog w =
    .ok (.slice (some ⟨w.heap.size, 0, none⟩) m n) (w.alloc (.cells (zrs .i64 n).toArray 3)) := by
  obtain ⟨i, hi, hz0, hz1, hz2⟩ := info_parts info3
  have hr := run_make (P := Try.prog) w 30 3 i (.int .i64 0) Try.underlying30 hi hz0 .i64 .i64 (m : Int) (n : Int) (by omega) (by omega) (by rw [hz2]; omega) (by omega)
  rw [hr, hz1]
  simp only [Int.toNat_natCast, Nat.mul_one]
  rw [replicate_made _ rfl]
  rfl

/-- 'copy' of n numbers to the head of a new row of m zeros. -/
theorem copy_run (T e : TypeId) (k : IntKind) (hu : Try.prog.underlying T = some (.slice e)) (hs : (Try.prog.info? e).map (·.size) = some 1) (w : World) (a : Option Addr) (n m c : Nat) (zs : List Int) (hnm : n ≤ m) (hr : Row k w a n zs) :
    ∃ W' : World, (∀ ty, (Builtin.copy_ #[T, T] ty #[.slice (some ⟨w.heap.size, 0, none⟩) n m, .slice a n c]).run Try.prog (w.alloc (.cells (zrs k m).toArray e)) = .ok (.int .i64 (n : Int)) W') ∧
      Blk W' w.heap.size (ints k (zs ++ List.replicate (m - n) 0)) e ∧ Below w.heap.size w W' ∧ W'.heap.size = w.heap.size + 1 := by
  have hl := hr.1
  have hbl : Below w.heap.size w (w.alloc (.cells (zrs k m).toArray e)) := (Below.refl _ _).alloc (Nat.le_refl _) _
  by_cases h0 : n = 0
  · subst h0
    have hz : zs = [] := List.eq_nil_of_length_eq_zero hl
    subst hz
    refine ⟨_, fun ty => ?_, ?_, hbl, by simp⟩
    · exact run_copy_none (P := Try.prog) _ T T ty e _ a 0 m 0 c hu hs (by rfl)
    · simp only [List.nil_append, Nat.sub_zero, ← zrs_ints]
      exact Blk.new _ _ _
  · obtain ⟨b, off, rfl, hb, hc⟩ := hr.2 (by omega)
    have hnew : (w.alloc (.cells (zrs k m).toArray e)).heap[w.heap.size]? = some (.cells (zrs k m).toArray e (0, 0)) := Blk.new w (zrs k m) e
    have hcs : (ints k zs).length = n := by rw [ints_length, hl]
    have hrun := fun ty => run_copy_row (P := Try.prog) (w.alloc (.cells (zrs k m).toArray e)) T T ty e w.heap.size 0 n m ⟨b, off, none⟩ n c (zrs k m).toArray e (ints k zs) hu hs hnew (by rw [hcs]; simp)
      (fun j v hj => by
        have hjn : j < n := by rw [← hcs]; exact (List.getElem?_eq_some_iff.1 hj).1
        rw [Addr.add_lit, hbl.cell (p := ⟨b, off + j, none⟩) hb, hc j hjn]
        have e1 : (ints k zs)[j]? = some (.int k (zs.getD j 0)) := by simp [ints, List.getD, show j < zs.length by omega]
        rw [e1] at hj
        exact hj)
      (by rw [hcs]; simp [zrs]; omega) (fun v hv => by
        simp only [ints, List.mem_map] at hv
        obtain ⟨x, _, rfl⟩ := hv
        rfl)
    have e2 : List.take 0 (zrs k m).toArray.toList ++ ints k zs ++ List.drop (0 + (ints k zs).length) (zrs k m).toArray.toList = ints k (zs ++ List.replicate (m - n) 0) := by
      rw [hcs, ints_append]
      simp [zrs, ints]
    refine ⟨(w.alloc (.cells (zrs k m).toArray e)).setRow w.heap.size (ints k (zs ++ List.replicate (m - n) 0)).toArray, fun ty => by rw [hrun ty, e2, hcs]; rfl, ?_, ?_, by simp⟩
    · exact setRow_heap (w.alloc (.cells (zrs k m).toArray e)) w.heap.size _ _ e _ hnew
    · exact hbl.trans ⟨rfl, rfl, rfl, by simp, fun i hi => setRow_other _ _ _ _ (by omega)⟩

theorem size21 : (Try.prog.info? 21).map (·.size) = some 1 := by kernel_rfl
theorem size3 : (Try.prog.info? 3).map (·.size) = some 1 := by kernel_rfl

/-- 'zzc := make([]int32, n); copy(zzc, x)'. -/
theorem mk_copy29 (w : World) (a : Option Addr) (n c : Nat) (zs : List Int) (hn : n ≤ 1048576) (hr : Row .i32 w a n zs) :
    ∃ (g : Nat) (W' : World), Hid (g = w.heap.size) ∧ (Instr.makeSlice 29 (.int .i64 (n : Int)) (.int .i64 (n : Int))).run Try.prog w = .ok (.slice (some ⟨g, 0, none⟩) n n) (w.alloc (.cells (zrs .i32 n).toArray 21)) ∧
      (∀ ty, (Builtin.copy_ #[29, 29] ty #[.slice (some ⟨g, 0, none⟩) n n, .slice a n c]).run Try.prog (w.alloc (.cells (zrs .i32 n).toArray 21)) = .ok (.int .i64 (n : Int)) W') ∧
      Hid (Blk W' g (ints .i32 zs) 21) ∧ Hid (Below g w W') ∧ Hid (W'.heap.size = g + 1) := by
  obtain ⟨W', h1, h2, h3, h4⟩ := copy_run 29 21 .i32 Try.underlying29 size21 w a n n c zs (Nat.le_refl _) hr
  refine ⟨w.heap.size, W', hid rfl, make29 n n (Nat.le_refl _) (by omega) w, h1, hid ?_, hid h3, hid h4⟩
  simpa using h2
/-- 'rowC := make([]int, n); copy(rowC, row)'. -/
theorem mk_copy30 (w : World) (a : Option Addr) (n c : Nat) (zs : List Int) (hn : n ≤ 1048576) (hr : Row .i64 w a n zs) :
    ∃ (g : Nat) (W' : World), Hid (g = w.heap.size) ∧ (Instr.makeSlice 30 (.int .i64 (n : Int)) (.int .i64 (n : Int))).run Try.prog w = .ok (.slice (some ⟨g, 0, none⟩) n n) (w.alloc (.cells (zrs .i64 n).toArray 3)) ∧
      (∀ ty, (Builtin.copy_ #[30, 30] ty #[.slice (some ⟨g, 0, none⟩) n n, .slice a n c]).run Try.prog (w.alloc (.cells (zrs .i64 n).toArray 3)) = .ok (.int .i64 (n : Int)) W') ∧
      Hid (Blk W' g (ints .i64 zs) 3) ∧ Hid (Below g w W') ∧ Hid (W'.heap.size = g + 1) := by
  obtain ⟨W', h1, h2, h3, h4⟩ := copy_run 30 3 .i64 Try.underlying30 size3 w a n n c zs (Nat.le_refl _) hr
  refine ⟨w.heap.size, W', hid rfl, make30 n n (Nat.le_refl _) (by omega) w, h1, hid ?_, hid h3, hid h4⟩
  simpa using h2
theorem row_at {k : IntKind} {w : World} {b off n : Nat} {zs : List Int} (h : Row k w (some ⟨b, off, none⟩) n zs) {i : Nat} (hi : i < n) : w.cell? ⟨b, off + i, none⟩ = some (.int k (zs.getD i 0)) := by
  obtain ⟨b', off', e, _, hc⟩ := h.2 (by omega)
  simp only [Option.some.injEq, Addr.mk.injEq, and_true] at e
  obtain ⟨rfl, rfl⟩ := e
  exact hc i hi

/-- true comes back; nothing old has turned. -/
def TrueRet (w : World) (e : Ending) (w' : World) : Prop := e = .returned (.bool true) ∧ Below w.heap.size w w'

/-- Bools in memory. -/
def bls (H : List Bool) : List Value := H.map Value.bool

theorem bls_get (H : List Bool) (j : Nat) (h : j < H.length) : (bls H)[j]? = some (.bool (H.getD j false)) := by simp [bls, List.getD, h]
theorem bls_set (H : List Bool) (j : Nat) (b : Bool) : (bls H).set j (.bool b) = bls (H.set j b) := by simp [bls]

theorem bls_false (n : Nat) : falses n = bls (List.replicate n false) := by simp [falses, bls]
theorem bls_append (a b : List Bool) : bls (a ++ b) = bls a ++ bls b := by simp [bls]
theorem bls_length (a : List Bool) : (bls a).length = a.length := by simp [bls]

/-- append to a row of one's own, as one step of a region that draws. -/
theorem step_append_own {P : Program} {ops : Array Oper} {o : Oper} {a : Act} {w : World} {K : Act → World → Prop} {Q : Exit → Act → World → Prop} {E : Prop}
    (hg : o.guard = none) (s x : Operand) (t : TypeId) (hop : o.op = Op.call { callee := Callee.builtin Builtin.append, args := #[s, x], argTypes := #[t, t] })
    (base : Nat) (e : TypeId) (i : TypeInfo) (z : Value) (size bytes : Nat) (h1 : P.underlying t = some (.slice e)) (h2 : P.info? e = some i) (h3 : i.zero = some z) (h4 : i.size = size) (h5 : i.bytes = bytes) (h6 : z.cells.size = size) (h7 : 0 < size)
    (v : Value) (n : Nat) (xs : List Value) (hs : a.eval s = v) (hown : w.ownsRow base e size v n xs)
    (ad : Addr) (m c : Nat) (news : List Value) (hx : a.eval x = .slice (some ad) m c) (hn : news.length = m * size) (hc : ∀ j u, news[j]? = some u → w.cell? (ad.add j) = some u) (h1c : ∀ u ∈ news, u.oneCell' = true)
    (b1 : n + m ≤ maxLen) (b2 : (n + m) * bytes ≤ 140737488355328) (hb : base ≤ w.heap.size)
    (hK : ∀ v' w', w'.ownsRow base e size v' (n + m) (xs ++ news) → w.grownBy w' v.ownBlock → (v' = .slice none 0 0 ↔ v = .slice none 0 0 ∧ m = 0) → K (a.put o.dst v') w') :
    if Region.wanted o (yielded ops a.tmps) = true then Oper.wp P o a w K Q else E := by
  have hw : Region.wanted o (yielded ops a.tmps) = true := by simp [Region.wanted, hg]
  rw [if_pos hw]
  exact wp_append_own w s x t hop base e i z size bytes h1 h2 h3 h4 h5 h6 h7 v n xs hs hown ad m c news hx hn hc h1c b1 b2 hb hK
/-- An append whose run is known, as one step of a region that draws. -/
theorem step_append_run {P : Program} {ops : Array Oper} {o : Oper} {a : Act} {w : World} {K : Act → World → Prop} {Q : Exit → Act → World → Prop} {E : Prop}
    (hg : o.guard = none) (s x : Operand) (t tn : TypeId) (hop : o.op = Op.call { callee := Callee.builtin Builtin.append, args := #[s, x], argTypes := #[t, tn] })
    (vs vx : Value) (hs : a.eval s = vs) (hx : a.eval x = vx) (v' : Value) (w' : World) (hr : (Builtin.append_ #[t, tn] o.type #[vs, vx]).run P w = .ok v' w') (h : K (a.put o.dst v') w') :
    if Region.wanted o (yielded ops a.tmps) = true then Oper.wp P o a w K Q else E := by
  have hw : Region.wanted o (yielded ops a.tmps) = true := by simp [Region.wanted, hg]
  rw [if_pos hw]
  exact Lib.wp_append_run w s x t tn hop vs vx hs hx v' w' hr h
end Go.Proofs.Qxb6603398a.E
