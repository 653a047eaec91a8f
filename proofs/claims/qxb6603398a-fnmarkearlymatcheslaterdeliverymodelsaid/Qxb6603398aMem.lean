/-
  MEMORY: blocks that are known whole, and slices of integers that can be read. No program is spoken of here.
-/
import Derived.WalkKit
import Derived.WalkSpells
import Derived.WalkSmall
import Derived.Deep.QuietTactic
import Derived.BigQuiet
namespace Go.Proofs.Qxb6603398a.Mem
open Go Go.RowKit

theorem hid {p : Prop} (h : p) : Hid p := h

/-- Block g holds just these cells, none of them frozen. -/
def Blk (w : World) (g : Nat) (cs : List Value) (e : TypeId) : Prop := w.heap[g]? = some (.cells cs.toArray e (0, 0))

theorem Blk.cell {w : World} {g : Nat} {cs : List Value} {e : TypeId} (h : Blk w g cs e) (j : Nat) : w.cell? ⟨g, j, none⟩ = cs[j]? := by
  rw [cell_of_row w g j _ e (0, 0) h]; simp
theorem Blk.frozen {w : World} {g : Nat} {cs : List Value} {e : TypeId} (h : Blk w g cs e) (j : Nat) : w.frozen? ⟨g, j, none⟩ = false :=
  frozen_of_row w g j _ e h
theorem Blk.lt {w : World} {g : Nat} {cs : List Value} {e : TypeId} (h : Blk w g cs e) : g < w.heap.size := lt_of_block h
theorem Blk.set {w : World} {g : Nat} {cs : List Value} {e : TypeId} (h : Blk w g cs e) (j : Nat) (v : Value) : Blk (w.setCell ⟨g, j, none⟩ v) g (cs.set j v) e := by
  have := heap_setCell_same w g j _ e v h
  unfold Blk
  rw [this]
  simp
theorem Blk.other {w : World} {g g' : Nat} {cs : List Value} {e : TypeId} (h : Blk w g cs e) (hne : g ≠ g') (j : Nat) (v : Value) : Blk (w.setCell ⟨g', j, none⟩ v) g cs e := by
  unfold Blk
  rw [heap_setCell_other w ⟨g', j, none⟩ g v hne]
  exact h
theorem Blk.alloc {w : World} {g : Nat} {cs : List Value} {e : TypeId} (h : Blk w g cs e) (o : Obj) : Blk (w.alloc o) g cs e := by
  unfold Blk
  rw [Below.heap_alloc w o g h.lt]
  exact h
theorem Blk.drewN {w : World} {g : Nat} {cs : List Value} {e : TypeId} (h : Blk w g cs e) (n : Nat) : Blk (w.drewN n) g cs e := h
theorem Blk.drew {w : World} {g : Nat} {cs : List Value} {e : TypeId} (h : Blk w g cs e) : Blk w.drew g cs e := h
theorem Blk.new (w : World) (cs : List Value) (e : TypeId) : Blk (w.alloc (.cells cs.toArray e)) w.heap.size cs e := heap_alloc_new w _
theorem Blk.below {w w' : World} {B g : Nat} {cs : List Value} {e : TypeId} (h : Blk w g cs e) (hb : Below B w w') (hg : g < B) : Blk w' g cs e := by
  unfold Blk
  rw [hb.block g hg]
  exact h

/-- The numbers as values. -/
def ints (k : IntKind) (zs : List Int) : List Value := zs.map (Value.int k)

/-- A slice that can be read: n numbers zs from its address on (nothing is said of an empty one's address). -/
def Row (k : IntKind) (w : World) (a : Option Addr) (n : Nat) (zs : List Int) : Prop :=
  zs.length = n ∧ (0 < n → ∃ b off, a = some ⟨b, off, none⟩ ∧ b < w.heap.size ∧ ∀ i, i < n → w.cell? ⟨b, off + i, none⟩ = some (.int k (zs.getD i 0)))

theorem Row.below {k : IntKind} {w w' : World} {a : Option Addr} {n : Nat} {zs : List Int} (h : Row k w a n zs) (hb : Below w.heap.size w w') : Row k w' a n zs := by
  refine ⟨h.1, fun hn => ?_⟩
  obtain ⟨b, off, e, hlt, hc⟩ := h.2 hn
  refine ⟨b, off, e, Nat.lt_of_lt_of_le hlt hb.size, fun i hi => ?_⟩
  rw [hb.cell (p := ⟨b, off + i, none⟩) hlt]
  exact hc i hi

theorem Row.ofBlk {k : IntKind} {w : World} {g : Nat} {zs : List Int} {rest : List Value} {e : TypeId} (h : Blk w g (ints k zs ++ rest) e) : Row k w (some ⟨g, 0, none⟩) zs.length zs := by
  refine ⟨rfl, fun _ => ⟨g, 0, rfl, h.lt, fun i hi => ?_⟩⟩
  rw [h.cell]
  simp [ints, List.getElem?_append_left, hi]

theorem Row.drew {k : IntKind} {w : World} {a : Option Addr} {n : Nat} {zs : List Int} (h : Row k w a n zs) : Row k w.drew a n zs := h

theorem Row.nil (k : IntKind) (w : World) (a : Option Addr) : Row k w a 0 [] := ⟨rfl, fun h => absurd h (by omega)⟩

/-- 'make([]T, n)': the very world. -/
theorem replicate_made (z : Value) (hz : z.cells = #[z]) (n : Nat) : madeCells z.cells n = (List.replicate n z).toArray := by
  rw [hz]
  have := toList_madeCells_one z n
  rw [← this]


/-- Nothing has turned but the blocks of S, and new ones. -/
structure Keeps (S : Nat → Prop) (w w' : World) : Prop where
  os : w'.os = w.os
  tape : w'.tape = w.tape
  output : w'.output = w.output
  size : w.heap.size ≤ w'.heap.size
  block : ∀ k, k < w.heap.size → ¬ S k → w'.heap[k]? = w.heap[k]?

theorem Keeps.refl (S : Nat → Prop) (w : World) : Keeps S w w := ⟨rfl, rfl, rfl, Nat.le_refl _, fun _ _ _ => rfl⟩
theorem Keeps.trans {S : Nat → Prop} {a b c : World} (h : Keeps S a b) (k : Keeps S b c) : Keeps S a c :=
  ⟨k.os.trans h.os, k.tape.trans h.tape, k.output.trans h.output, Nat.le_trans h.size k.size, fun i hi hs => (k.block i (Nat.lt_of_lt_of_le hi h.size) hs).trans (h.block i hi hs)⟩
theorem Keeps.mono {S T : Nat → Prop} {a b : World} (h : Keeps S a b) (hst : ∀ k, k < a.heap.size → S k → T k) : Keeps T a b :=
  ⟨h.os, h.tape, h.output, h.size, fun i hi hs => h.block i hi (fun hS => hs (hst i hi hS))⟩
theorem Keeps.drew {S : Nat → Prop} {a w : World} (h : Keeps S a w) : Keeps S a w.drew := ⟨h.os, h.tape, h.output, h.size, h.block⟩
theorem Keeps.drewN {S : Nat → Prop} {a w : World} (h : Keeps S a w) (n : Nat) : Keeps S a (w.drewN n) := ⟨h.os, h.tape, h.output, h.size, h.block⟩
theorem Keeps.alloc {S : Nat → Prop} {a w : World} (h : Keeps S a w) (o : Obj) : Keeps S a (w.alloc o) :=
  h.trans ⟨rfl, rfl, rfl, by simp, fun k hk _ => Below.heap_alloc _ _ _ hk⟩
theorem Keeps.setCell {S : Nat → Prop} {a w : World} (h : Keeps S a w) {p : Addr} (hp : S p.block) (u : Value) : Keeps S a (w.setCell p u) :=
  h.trans ⟨rfl, rfl, rfl, by simp [World.setCell], fun k _ hs => Below.heap_setCell _ _ _ _ (fun e => hs (e ▸ hp))⟩
theorem Keeps.below {w w' : World} (h : Keeps (fun _ => False) w w') : Below w.heap.size w w' := ⟨h.os, h.tape, h.output, h.size, fun k hk => h.block k hk (fun x => x)⟩
theorem Keeps.of_below {S : Nat → Prop} {w w' : World} {B : Nat} (h : Below B w w') (hS : ∀ k, k < w.heap.size → B ≤ k → S k) : Keeps S w w' :=
  ⟨h.os, h.tape, h.output, h.size, fun k hk hs => h.block k (by rcases Nat.lt_or_ge k B with h1 | h1; exact h1; exact absurd (hS k hk h1) hs)⟩
theorem Keeps.to_below {S : Nat → Prop} {w w' : World} {B : Nat} (h : Keeps S w w') (hB : B ≤ w.heap.size) (hS : ∀ k, S k → B ≤ k) : Below B w w' :=
  ⟨h.os, h.tape, h.output, h.size, fun k hk => h.block k (by omega) (fun hs => by have := hS k hs; omega)⟩
theorem Blk.keeps {S : Nat → Prop} {w w' : World} {g : Nat} {cs : List Value} {e : TypeId} (h : Blk w g cs e) (hk : Keeps S w w') (hg : ¬ S g) : Blk w' g cs e := by
  unfold Blk
  rw [hk.block g h.lt hg]
  exact h

theorem Keeps.cell {S : Nat → Prop} {w w' : World} (hk : Keeps S w w') {p : Addr} (hp : p.block < w.heap.size) (hs : ¬ S p.block) : w'.cell? p = w.cell? p := World.cell?_of_block (w := w) (hk.block p.block hp hs)

/-- A cell of a row of numbers that is known whole. -/
theorem Blk.int {w : World} {g : Nat} {k : IntKind} {zs : List Int} {e : TypeId} (h : Blk w g (ints k zs) e) {j : Nat} (hj : j < zs.length) : w.cell? ⟨g, j, none⟩ = some (.int k (zs.getD j 0)) := by
  rw [h.cell]
  simp [ints, List.getD, hj]
theorem ints_set (k : IntKind) (zs : List Int) (j : Nat) (x : Int) : (ints k zs).set j (.int k x) = ints k (zs.set j x) := by simp [ints]
theorem ints_length (k : IntKind) (zs : List Int) : (ints k zs).length = zs.length := by simp [ints]
theorem ints_append (k : IntKind) (a b : List Int) : ints k (a ++ b) = ints k a ++ ints k b := by simp [ints]

end Go.Proofs.Qxb6603398a.Mem
