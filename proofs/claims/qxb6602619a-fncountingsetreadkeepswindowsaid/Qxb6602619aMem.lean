/-
  MEMORY: blocks that are known whole, and slices of integers that can be read. No program is spoken of here.
-/
import Derived.WalkKit
import Derived.WalkSpells
import Derived.WalkSmall
import Derived.Deep.QuietTactic
import Derived.BigQuiet
namespace Go.Proofs.Qxb6602619a.Mem
open Go Go.RowKit

theorem hid {p : Prop} (h : p) : Hid p := h

/-- Block g holds just these cells, none of them frozen. -/
def Blk (w : World) (g : Nat) (cs : List Value) (e : TypeId) : Prop := w.heap[g]? = some (.cells cs.toArray e (0, 0))

theorem Blk.cell {w : World} {g : Nat} {cs : List Value} {e : TypeId} (h : Blk w g cs e) (j : Nat) : w.cell? ⟨g, j, none⟩ = cs[j]? := by
  rw [cell_of_row w g j _ e (0, 0) h]; simp
theorem Blk.frozen {w : World} {g : Nat} {cs : List Value} {e : TypeId} (h : Blk w g cs e) (j : Nat) : w.frozen? ⟨g, j, none⟩ = false :=
  frozen_of_row w g j _ e h
theorem Blk.lt {w : World} {g : Nat} {cs : List Value} {e : TypeId} (h : Blk w g cs e) : g < w.heap.size := lt_of_block h
theorem Blk.set {w : World} {g : Nat} {cs : List Value} {e : TypeId} (h : Blk w g cs e) (j : Nat) (v : Value) : Blk (w.setCell ⟨g, j, none⟩ v) g (cs.set j v) e := by
  have := heap_setCell_same w g j _ e v h
  unfold Blk
  rw [this]
  simp
theorem Blk.other {w : World} {g g' : Nat} {cs : List Value} {e : TypeId} (h : Blk w g cs e) (hne : g ≠ g') (j : Nat) (v : Value) : Blk (w.setCell ⟨g', j, none⟩ v) g cs e := by
  unfold Blk
  rw [heap_setCell_other w ⟨g', j, none⟩ g v hne]
  exact h
theorem Blk.alloc {w : World} {g : Nat} {cs : List Value} {e : TypeId} (h : Blk w g cs e) (o : Obj) : Blk (w.alloc o) g cs e := by
  unfold Blk
  rw [Below.heap_alloc w o g h.lt]
  exact h
theorem Blk.drewN {w : World} {g : Nat} {cs : List Value} {e : TypeId} (h : Blk w g cs e) (n : Nat) : Blk (w.drewN n) g cs e := h
theorem Blk.drew {w : World} {g : Nat} {cs : List Value} {e : TypeId} (h : Blk w g cs e) : Blk w.drew g cs e := h
theorem Blk.new (w : World) (cs : List Value) (e : TypeId) : Blk (w.alloc (.cells cs.toArray e)) w.heap.size cs e := heap_alloc_new w _
theorem Blk.below {w w' : World} {B g : Nat} {cs : List Value} {e : TypeId} (h : Blk w g cs e) (hb : Below B w w') (hg : g < B) : Blk w' g cs e := by
  unfold Blk
  rw [hb.block g hg]
  exact h

/-- The numbers as values. -/
def ints (k : IntKind) (zs : List Int) : List Value := zs.map (Value.int k)

/-- A slice that can be read: n numbers zs from its address on (nothing is said of an empty one's address). -/
def Row (k : IntKind) (w : World) (a : Option Addr) (n : Nat) (zs : List Int) : Prop :=
  zs.length = n ∧ (0 < n → ∃ b off, a = some ⟨b, off, none⟩ ∧ b < w.heap.size ∧ ∀ i, i < n → w.cell? ⟨b, off + i, none⟩ = some (.int k (zs.getD i 0)))

theorem Row.below {k : IntKind} {w w' : World} {a : Option Addr} {n : Nat} {zs : List Int} (h : Row k w a n zs) (hb : Below w.heap.size w w') : Row k w' a n zs := by
  refine ⟨h.1, fun hn => ?_⟩
  obtain ⟨b, off, e, hlt, hc⟩ := h.2 hn
  refine ⟨b, off, e, Nat.lt_of_lt_of_le hlt hb.size, fun i hi => ?_⟩
  rw [hb.cell (p := ⟨b, off + i, none⟩) hlt]
  exact hc i hi

theorem Row.ofBlk {k : IntKind} {w : World} {g : Nat} {zs : List Int} {rest : List Value} {e : TypeId} (h : Blk w g (ints k zs ++ rest) e) : Row k w (some ⟨g, 0, none⟩) zs.length zs := by
  refine ⟨rfl, fun _ => ⟨g, 0, rfl, h.lt, fun i hi => ?_⟩⟩
  rw [h.cell]
  simp [ints, List.getElem?_append_left, hi]

theorem Row.drew {k : IntKind} {w : World} {a : Option Addr} {n : Nat} {zs : List Int} (h : Row k w a n zs) : Row k w.drew a n zs := h

theorem Row.nil (k : IntKind) (w : World) (a : Option Addr) : Row k w a 0 [] := ⟨rfl, fun h => absurd h (by omega)⟩

/-- 'make([]T, n)': the very world. -/
theorem replicate_made (z : Value) (hz : z.cells = #[z]) (n : Nat) : madeCells z.cells n = (List.replicate n z).toArray := by
  rw [hz]
  have := toList_madeCells_one z n
  rw [← this]

end Go.Proofs.Qxb6602619a.Mem
