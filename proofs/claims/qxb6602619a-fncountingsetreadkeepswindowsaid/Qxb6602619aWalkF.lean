/-
  FOR THE LAW's OWN WALK: the arguments' rows, the copies, the cut slices, read's ways joined.
-/
import Derived.Test.Qxb6602619aWalkB
import Derived.Test.Qxb6602619aWalkE
namespace Go.Proofs.Qxb6602619a
open Go.RowKit Mem Plain
set_option linter.unusedVariables false

theorem copy_all (a : Option Addr) (n c : Nat) (zs : List Int) (w : World) (h0 : Row .i64 w a n zs) (ha : a = none → n = 0 ∧ c = 0) (hn : n ≤ 65536) :
    Calls Try.prog 9 #[.slice a n c] w (CopyRet n zs w) := by
  cases a with
  | none =>
    obtain ⟨rfl, rfl⟩ := ha rfl
    have : zs = [] := List.eq_nil_of_length_eq_zero h0.1
    subst this
    exact copy_nil w
  | some x => exact copy_any x n c zs w h0 hn

/-- The address of 'x[h:]'. -/
def cutA (a : Option Addr) (n h : Nat) : Option Addr := if n = h then a else a.map (·.add h)
theorem slice_cut (a : Option Addr) (n h : Nat) (hh : h ≤ n) (w : World) : (Instr.slice 22 (.slice a n n) (some (.int .i64 (h : Int))) none none).run Try.prog w = .ok (.slice (cutA a n h) (n - h) (n - h)) w := by
  have e3 : Try.prog.elem 22 = 3 := by kernel_rfl
  have hu : Try.prog.underlying 22 = some (.slice (Try.prog.elem 22)) := by rw [e3]; exact Try.underlying22
  obtain ⟨i, hi, hz0, hz1, hz2⟩ := info_parts Try.info3
  rw [run_slice_l w 22 a n n hu .i64 (h : Int) (by omega) (by omega), e3]
  simp [sizeOf, typeInfo, hi, hz1, Result.andThen, sliced, cutA]
theorem row_cut {k : IntKind} {w : World} {a : Option Addr} {n h : Nat} {zs : List Int} (r : Row k w a n zs) (hh : h ≤ n) : Row k w (cutA a n h) (n - h) (zs.drop h) := by
  refine ⟨by rw [List.length_drop, r.1], fun hp => ?_⟩
  obtain ⟨b, off, e, hb, hc⟩ := r.2 (by omega)
  refine ⟨b, off + h, by subst e; simp [cutA, show ¬ n = h by omega, Addr.add], hb, fun i hi => ?_⟩
  rw [Nat.add_assoc, hc (h + i) (by omega)]
  simp [List.getD]

theorem same_two (a0 a1 : Option Addr) (n0 n1 c0 c1 : Nat) (zs ys : List Int) (w : World) (h0 : Row .i64 w a0 n0 zs) (h1 : Row .i64 w a1 n1 ys) (hz : zs = ys) (hn : n0 ≤ 65536) :
    Calls Try.prog 12 #[.slice a0 n0 c0, .slice a1 n1 c1] w (TrueRet w) := by
  subst hz
  have e : n0 = n1 := h0.1.symm.trans h1.1
  subst e
  exact same_any a0 a1 n0 c0 c1 zs w h0 h1 hn

/-- read, whatever the way. -/
theorem read_any (B p g n h : Nat) (ps : List (Int × Int)) (w : World) (index most : Int) (inClass : Bool) (lo hi : Int) (hc : CSet w p g n ps h) (hl : ps.length = n) (hn : n ≤ 65536) (hh : h ≤ n) (hp : B ≤ p) (hg : B ≤ g)
    (hch : Chain (ps.drop h)) (hle : h < n → (ps.getD (n - 1) (0, 0)).2 ≤ index) (hr : ∀ q ∈ ps, -9223372036854775808 ≤ q.1 ∧ q.2 ≤ 9223372036854775807)
    (hw : (inClass = false ∧ lo = index ∧ hi = index) ∨ (inClass = true ∧ 0 ≤ most ∧ -9223372036854775808 ≤ index - most ∧ index - most ≤ 9223372036854775807 ∧ lo = index - most ∧ hi = 9223372036854775807) ∨ (inClass = true ∧ most < 0 ∧ lo = -9223372036854775808 ∧ hi = 9223372036854775807)) :
    Calls Try.prog 21 #[.pointer (some ⟨p, 0, none⟩), .int .i64 index, .bool inClass, .int .i64 most] w (ReadRet B p g n ps h lo hi w) := by
  by_cases he : h = n
  · subst he
    refine (read_done B p g h h ps w index most inClass hc hl hn (Nat.le_refl _)).mono ?_
    rintro e w' ⟨rfl, h1, h2⟩
    refine ⟨rfl, h2, ps, h, h1, ?_⟩
    rw [← hl]
    exact good_done ps lo hi
  · rcases hw with ⟨rfl, e1, e2⟩ | ⟨rfl, hm, ho1, ho2, rfl, rfl⟩ | ⟨rfl, hm, rfl, rfl⟩
    · rw [e1, e2]
      by_cases hx : (ps.getD (n - 1) (0, 0)).2 = index
      · refine (read_one B p g n n h ps w index most hc hl hn (Nat.le_refl _) (by omega) hp hg hx).mono ?_
        rintro e w' ⟨rfl, h1, h2⟩
        exact ⟨rfl, h2, _, 0, h1, good_one (by omega) hch (by rw [hl]; exact hx)⟩
      · refine (read_none B p g n n h ps w index most hc hl hn (Nat.le_refl _) (by omega) hp hx).mono ?_
        rintro e w' ⟨rfl, h1, h2⟩
        exact ⟨rfl, h2, _, 0, h1, good_none (by omega) hch (by rw [hl]; exact hle (by omega)) (by rw [hl]; exact hx)⟩
    · refine (read_most B p g n n h ps w index most hc hl hn (Nat.le_refl _) (by omega) hp hg hm ho1 ho2).mono ?_
      rintro e w' ⟨rfl, h2, k, hk0, hk, hs, h3⟩
      rcases h3 with ⟨hk1, h3⟩ | ⟨hk1, hk2, h3⟩
      · exact ⟨rfl, h2, _, k, h3, good_most hk0 (by omega) hch (fun q hq => (hr q hq).2) hs (.inl ⟨by omega, rfl⟩)⟩
      · exact ⟨rfl, h2, _, k, h3, good_most hk0 (by omega) hch (fun q hq => (hr q hq).2) hs (.inr ⟨by omega, hk2, rfl⟩)⟩
    · refine (read_all B p g n n h ps w index most hc hl hn (Nat.le_refl _) (by omega) hm).mono ?_
      rintro e w' ⟨rfl, h1, h2⟩
      exact ⟨rfl, h2, _, h, h1, good_all (by omega) hch hr⟩
end Go.Proofs.Qxb6602619a
