/-
  THE WALK of (*clocks).of: a message's row, cut out of rows.
-/
import Derived.Test.Qxb6603398aRows
import Derived.Test.Qxb6603398aMem
namespace Go.Proofs.Qxb6603398a
open Go.RowKit Mem
set_option linter.unusedVariables false

theorem Try.info21 : (Try.prog.info? 21).map (fun i => (i.zero, i.size, i.bytes)) = some (some (.int .i32 0), 1, 4) := by kernel_rfl
/-- The address of 'x[h:..]', x of capacity n. -/
def cutA (a : Option Addr) (n h : Nat) : Option Addr := if n = h then a else a.map (·.add h)
theorem slice_lh (kl kh : IntKind) (a : Option Addr) (n c l h : Nat) (hl : l ≤ h) (hc : h ≤ c) (w : World) : (Instr.slice 29 (.slice a n c) (some (.int kl (l : Int))) (some (.int kh (h : Int))) none).run Try.prog w = .ok (.slice (cutA a c l) (h - l) (c - l)) w := by
  have e3 : Try.prog.elem 29 = 21 := by kernel_rfl
  have hu : Try.prog.underlying 29 = some (.slice (Try.prog.elem 29)) := by rw [e3]; exact Try.underlying29
  obtain ⟨i, hi, hz0, hz1, hz2⟩ := info_parts Try.info21
  rw [run_slice_lh w 29 a n c hu kl kh (l : Int) (h : Int) (by omega) (by omega) (by omega), e3]
  simp [sizeOf, typeInfo, hi, hz1, Result.andThen, sliced, cutA]
theorem cutA_some (g o c l : Nat) (h : l < c) : cutA (some ⟨g, o, none⟩) c l = some ⟨g, o + l, none⟩ := by
  simp [cutA, show ¬ c = l by omega, Addr.add]

/-- A slice comes back; nothing has turned. -/
def SlRet (a : Option Addr) (n c : Nat) (w : World) (e : Ending) (w' : World) : Prop := e = .returned (.slice a n c) ∧ ∃ d, w' = w.drewN d

set_option maxHeartbeats 1000000 in
theorem of_any (pc m r sc wd gr o8 nr cr nR cR gw o5 nw cw gs o0 ns cs : Nat) (aR : Option Addr) (w : World)
    (f8 : w.cell? ⟨pc, 8, none⟩ = some (.slice (some ⟨gr, o8, none⟩) nr cr)) (f9 : w.cell? ⟨pc, 9, none⟩ = some (.slice aR nR cR)) (f5 : w.cell? ⟨pc, 5, none⟩ = some (.slice (some ⟨gw, o5, none⟩) nw cw)) (f0 : w.cell? ⟨pc, 0, none⟩ = some (.slice (some ⟨gs, o0, none⟩) ns cs))
    (cr8 : w.cell? ⟨gr, o8 + m, none⟩ = some (.int .i64 (r : Int))) (cs0 : w.cell? ⟨gs, o0 + m, none⟩ = some (.int .i32 (sc : Int))) (cw5 : w.cell? ⟨gw, o5 + sc, none⟩ = some (.int .i32 (wd : Int)))
    (h8 : m < nr) (h0 : m < ns) (h5 : sc < nw) (hw : r + wd ≤ cR) (hb : cR ≤ 4194304) (hnr : nr ≤ 4194304) (hns : ns ≤ 4194304) (hnw : nw ≤ 4194304) :
    Calls Try.prog 20 #[.pointer (some ⟨pc, 0, none⟩), .int .i32 (m : Int)] w (SlRet (cutA aR cR r) wd (cR - r) w) := by
  have hsl := slice_lh .i64 .i64 aR nR cR r (r + wd) (by omega) hw
  simp only [Int.natCast_add, Nat.add_sub_cancel_left] at hsl
  have i8 : (m : Int) < (nr : Int) := by omega
  have i0 : (m : Int) < (ns : Int) := by omega
  have i5 : (sc : Int) < (nw : Int) := by omega
  have iw : (wd : Int) ≤ 4194304 := by omega
  have ir : (r : Int) ≤ 4194304 := by omega
  go_enter Try.func20, Try.ntmps20
  go_wp2
  go_quiet (fail)
  go_wp2
  go_ret
  exact ⟨rfl, _, rfl⟩
end Go.Proofs.Qxb6603398a
