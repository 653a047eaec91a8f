/-
  THE WALK of ZZCountingSetRead: the set is made, read, and taken apart again.
-/
import Derived.Test.Qxb6602619aWalkD
import Derived.Test.Qxb6602619aLaw
namespace Go.Proofs.Qxb6602619a
open Go.RowKit Mem Plain
set_option linter.unusedVariables false

/-- Two new slices and a head that are as the law wants them. -/
def ZRet (ps : List (Int × Int)) (h : Nat) (lo hi : Int) (w : World) (e : Ending) (w' : World) : Prop := ∃ (ps' : List (Int × Int)) (h' : Nat) (a0 a1 : Option Addr),
  e = .returned (.tuple #[.slice a0 ps'.length ps'.length, .slice a1 ps'.length ps'.length, .int .i64 h']) ∧
  Row .i64 w' a0 ps'.length (ps'.map (·.1)) ∧ Row .i64 w' a1 ps'.length (ps'.map (·.2)) ∧ WinOk ps h lo hi ps' h' ∧ Below w.heap.size w w'

/-- What read leaves, whatever way it goes. -/
def ReadRet (B p g n : Nat) (ps : List (Int × Int)) (h : Nat) (lo hi : Int) (w : World) (e : Ending) (w' : World) : Prop :=
  e = .returned (.tuple #[]) ∧ Below B w w' ∧ ∃ (ps' : List (Int × Int)) (h' : Nat), CSet w' p g n ps' h' ∧ WinOk ps h lo hi ps' h'

theorem zread_any (a0 a1 : Option Addr) (n c0 c1 h : Nat) (ps : List (Int × Int)) (w : World) (index most : Int) (inClass : Bool) (lo hi : Int) (h0 : Row .i64 w a0 n (ps.map (·.1))) (h1 : Row .i64 w a1 n (ps.map (·.2))) (hn : n ≤ 65536)
    (hr : ∀ (p g : Nat) (w1 : World), CSet w1 p g n ps h → w.heap.size ≤ p → w.heap.size ≤ g → Calls Try.prog 21 #[.pointer (some ⟨p, 0, none⟩), .int .i64 index, .bool inClass, .int .i64 most] w1 (ReadRet w.heap.size p g n ps h lo hi w1)) :
    Calls Try.prog 16 #[.slice a0 n c0, .slice a1 n c1, .int .i64 h, .int .i64 index, .bool inClass, .int .i64 most] w (ZRet ps h lo hi w) := by
  have HL : Hid (ps.length = n) := hid (by have := h0.1; simpa using this)
  have HR := hid hr
  have H0 := hid h0
  have H1 := hid h1
  clear h0 h1 hr
  go_enter Try.func16, Try.ntmps16
  go_wp2_with fail
  refine (of_any a0 a1 n c0 c1 h ps w H0.out H1.out hn).mono ?_
  rintro e w1 ⟨p, g, rfl, hc, hp, hg, hb⟩
  rw [HL.out] at hc
  have HC := hid hc
  have HB := hid hb
  clear hc hb
  go_wp2_with fail
  refine (HR.out p g w1 HC.out hp hg).mono ?_
  rintro e w2 ⟨rfl, hb2, ps', h', hc2, hgood⟩
  have HC2 := hid hc2
  have HB2 := hid hb2
  have HG := hid hgood
  clear hc2 hb2 hgood
  have hle : ps'.length ≤ 65536 := by have := HG.out.len; rw [HL.out] at this; omega
  go_wp2_with fail
  refine (parts_any p g n ps'.length h' ps' w2 HC2.out rfl hle).mono ?_
  rintro e w3 ⟨b0, b1, rfl, hr0, hr1, hb3⟩
  have HR0 := hid hr0
  have HR1 := hid hr1
  have HB3 := hid hb3
  clear hr0 hr1 hb3
  go_wp2
  go_ret3
  have hs2 := Nat.le_trans HB.out.size HB2.out.size
  exact ⟨ps', h', b0, b1, rfl, HR0.out, HR1.out, HG.out, (HB.out.trans HB2.out).trans (HB3.out.mono hs2)⟩
end Go.Proofs.Qxb6602619a
