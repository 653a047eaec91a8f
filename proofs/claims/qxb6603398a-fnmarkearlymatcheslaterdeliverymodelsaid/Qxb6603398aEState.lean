/-
  WHAT markEarly READS AND WRITES: its memory.
-/
import Derived.Test.Qxb6603398aRows
import Derived.Test.Qxb6603398aMem
import Derived.Test.Qxb6603398aEarly
import Derived.Test.Qxb6603398aWalkOf
import Derived.Test.Qxb6603398aECopies
namespace Go.Proofs.Qxb6603398a
open Go.RowKit Mem Early E
set_option linter.unusedVariables false

/-- A slice of events that can be read. -/
def EvRow (w : World) (a : Option Addr) (n : Nat) (ms : List Int) (ss : List Bool) : Prop :=
  ms.length = n ∧ ss.length = n ∧ (0 < n → ∃ b off, a = some ⟨b, off, none⟩ ∧ b < w.heap.size ∧ ∀ i, i < n → w.cell? ⟨b, off + i * 2, none⟩ = some (.int .i32 (ms.getD i 0)) ∧ w.cell? ⟨b, off + i * 2 + 1, none⟩ = some (.bool (ss.getD i false)))
theorem EvRow.below {w w' : World} {a : Option Addr} {n : Nat} {ms : List Int} {ss : List Bool} (h : EvRow w a n ms ss) (hb : Below w.heap.size w w') : EvRow w' a n ms ss := by
  refine ⟨h.1, h.2.1, fun hn => ?_⟩
  obtain ⟨b, off, e, hlt, hc⟩ := h.2.2 hn
  refine ⟨b, off, e, Nat.lt_of_lt_of_le hlt hb.size, fun i hi => ?_⟩
  rw [hb.cell (p := ⟨b, off + i * 2, none⟩) hlt, hb.cell (p := ⟨b, off + i * 2 + 1, none⟩) hlt]
  exact hc i hi

theorem below_drewN {B : Nat} {w w' : World} (h : Below B w w') (n : Nat) : Below B w (w'.drewN n) := ⟨h.os, h.tape, h.output, h.size, h.block⟩
def In32 (zs : List Int) : Prop := ∀ i, -2147483648 ≤ zs.getD i 0 ∧ zs.getD i 0 ≤ 2147483647
def In64 (zs : List Int) : Prop := ∀ i, -9223372036854775808 ≤ zs.getD i 0 ∧ zs.getD i 0 ≤ 9223372036854775807
/-- The numbers fit their kinds. -/
structure InE (L : Lists) : Prop where
  p : L.p ≤ 65536
  msgs : In32 L.msgs
  sender : In32 L.sender
  seen : In32 L.seen
  scope : In32 L.scope
  stream : In32 L.stream
  seq : In32 L.seq
  row : In64 L.row
  ss : In32 L.ss
  slot : In32 L.slot
  width : In32 L.width
  rows : In32 L.rows

/-- A slice that can be read, below block B. -/
def RowB (k : IntKind) (w : World) (B : Nat) (a : Option Addr) (n : Nat) (zs : List Int) : Prop :=
  zs.length = n ∧ (0 < n → ∃ b off, a = some ⟨b, off, none⟩ ∧ b < B ∧ ∀ i, i < n → w.cell? ⟨b, off + i, none⟩ = some (.int k (zs.getD i 0)))
theorem RowB.same {k : IntKind} {w w' : World} {B : Nat} {a : Option Addr} {n : Nat} {zs : List Int} (h : RowB k w B a n zs) (hs : ∀ j, j < B → w'.heap[j]? = w.heap[j]?) : RowB k w' B a n zs := by
  refine ⟨h.1, fun hn => ?_⟩
  obtain ⟨b, off, e, hb, hc⟩ := h.2 hn
  exact ⟨b, off, e, hb, fun i hi => (World.cell?_of_block (hs b hb)).trans (hc i hi)⟩

/-- The checker's cells. -/
def chk (pl pk gS n3 gM n8 : Nat) (vF vE vS : Value) : List Value :=
  [.pointer (some ⟨pl, 0, none⟩), .pointer (some ⟨pk, 0, none⟩), .slice none 0 0, .slice none 0 0, vF, vE, .slice (some ⟨gS, 0, none⟩) n3 n3, .slice (some ⟨gM, 0, none⟩) n8 n8, vS, .slice none 0 0, .slice none 0 0]

/-- What markEarly only reads. -/
structure Stat (L : Lists) (w : World) (B pl pk gP gE gMs n1 n2 : Nat) (a4 a5 a6 a7 a8 a9 a10 a11 : Option Addr) (n4 n5 n6 n7 n8 n9 n10 n11 c4 c5 c6 c7 c8 c9 c10 c11 : Nat) : Prop where
  log0 : w.cell? ⟨pl, 0, none⟩ = some (.slice (some ⟨gP, 0, none⟩) (L.p + 1) (L.p + 1))
  log2 : w.cell? ⟨pl, 2, none⟩ = some (.slice (some ⟨gMs, 0, none⟩) n2 n2)
  par : w.cell? ⟨gP, L.p * 3 + 1, none⟩ = some (.slice (some ⟨gE, 0, none⟩) n1 n1)
  ev0 : ∀ i, i < n1 → w.cell? ⟨gE, i * 2, none⟩ = some (.int .i32 (L.msgs.getD i 0))
  ev1 : ∀ i, i < n1 → w.cell? ⟨gE, i * 2 + 1, none⟩ = some (.bool (L.sends.getD i false))
  ms : ∀ b, b < n2 → w.cell? ⟨gMs, b * 3 + 1, none⟩ = some (.int .i32 (L.sender.getD b 0))
  k4 : w.cell? ⟨pk, 0, none⟩ = some (.slice a4 n4 c4)
  k5 : w.cell? ⟨pk, 1, none⟩ = some (.slice a5 n5 c5)
  k6 : w.cell? ⟨pk, 2, none⟩ = some (.slice a6 n6 c6)
  k7 : w.cell? ⟨pk, 8, none⟩ = some (.slice a7 n7 c7)
  k8 : w.cell? ⟨pk, 6, none⟩ = some (.slice a8 n8 c8)
  k9 : w.cell? ⟨pk, 7, none⟩ = some (.slice a9 n9 c9)
  k10 : w.cell? ⟨pk, 5, none⟩ = some (.slice a10 n10 c10)
  k11 : w.cell? ⟨pk, 9, none⟩ = some (.slice a11 n11 c11)
  r4 : RowB .i32 w B a4 n4 L.scope
  r5 : RowB .i32 w B a5 n5 L.stream
  r6 : RowB .i32 w B a6 n6 L.seq
  r7 : RowB .i64 w B a7 n7 L.row
  r8 : RowB .i32 w B a8 n8 L.ss
  r9 : RowB .i32 w B a9 n9 L.slot
  r10 : RowB .i32 w B a10 n10 L.width
  r11 : RowB .i32 w B a11 n11 L.rows
theorem Stat.same {L : Lists} {w w' : World} {B pl pk gP gE gMs n1 n2 : Nat} {a4 a5 a6 a7 a8 a9 a10 a11 : Option Addr} {n4 n5 n6 n7 n8 n9 n10 n11 c4 c5 c6 c7 c8 c9 c10 c11 : Nat} (h : Stat L w B pl pk gP gE gMs n1 n2 a4 a5 a6 a7 a8 a9 a10 a11 n4 n5 n6 n7 n8 n9 n10 n11 c4 c5 c6 c7 c8 c9 c10 c11)
    (hs : ∀ j, (j < B ∨ j = pl ∨ j = pk ∨ j = gP ∨ j = gE ∨ j = gMs) → w'.heap[j]? = w.heap[j]?) : Stat L w' B pl pk gP gE gMs n1 n2 a4 a5 a6 a7 a8 a9 a10 a11 n4 n5 n6 n7 n8 n9 n10 n11 c4 c5 c6 c7 c8 c9 c10 c11 :=
  ⟨(World.cell?_of_block (hs pl (by simp))).trans h.log0, (World.cell?_of_block (hs pl (by simp))).trans h.log2, (World.cell?_of_block (hs gP (by simp))).trans h.par, fun i hi => (World.cell?_of_block (hs gE (by simp))).trans (h.ev0 i hi), fun i hi => (World.cell?_of_block (hs gE (by simp))).trans (h.ev1 i hi), fun i hi => (World.cell?_of_block (hs gMs (by simp))).trans (h.ms i hi),
   (World.cell?_of_block (hs pk (by simp))).trans h.k4, (World.cell?_of_block (hs pk (by simp))).trans h.k5, (World.cell?_of_block (hs pk (by simp))).trans h.k6, (World.cell?_of_block (hs pk (by simp))).trans h.k7, (World.cell?_of_block (hs pk (by simp))).trans h.k8, (World.cell?_of_block (hs pk (by simp))).trans h.k9, (World.cell?_of_block (hs pk (by simp))).trans h.k10, (World.cell?_of_block (hs pk (by simp))).trans h.k11,
   h.r4.same (fun j hj => hs j (.inl hj)), h.r5.same (fun j hj => hs j (.inl hj)), h.r6.same (fun j hj => hs j (.inl hj)), h.r7.same (fun j hj => hs j (.inl hj)), h.r8.same (fun j hj => hs j (.inl hj)), h.r9.same (fun j hj => hs j (.inl hj)), h.r10.same (fun j hj => hs j (.inl hj)), h.r11.same (fun j hj => hs j (.inl hj))⟩

/-- What markEarly may write. -/
def Wr (pc gS gM : Nat) (k : Nat) : Prop := k = pc ∨ k = gS ∨ k = gM
end Go.Proofs.Qxb6603398a
