/-
  THE WALK of ZZMarkEarly: the events and the messages are laid, the log, the clocks and the checker; markEarly is run; three fields come back.
-/
import Derived.Test.Qxb6603398aRows
import Derived.Test.Qxb6603398aEMark
import Derived.OwnWalk

namespace Go.Proofs.Qxb6603398a
open Go.RowKit Mem Early E
set_option linter.unusedVariables false

theorem info51 : (Try.prog.info? 51).map (fun i => (i.zero, i.size, i.bytes)) = some (some (.agg #[.int .i32 0, .bool false]), 2, 8) := by kernel_rfl
theorem info54 : (Try.prog.info? 54).map (fun i => (i.zero, i.size, i.bytes)) = some (some (.agg #[.string ⟨#[]⟩, .int .i32 0, .string ⟨#[]⟩]), 3, 40) := by kernel_rfl
theorem info57 : (Try.prog.info? 57).map (fun i => (i.zero, i.size, i.bytes)) = some (some (.agg #[.string ⟨#[]⟩, .slice none 0 0, .bool false]), 3, 48) := by kernel_rfl
theorem make49 (n : Nat) (hn : n ≤ 1048576) : ∃ X : List Value, X.length = n * 2 ∧ ∀ w : World, (Instr.makeSlice 49 (.int .i64 (n : Int)) (.int .i64 (n : Int))).run Try.prog w = .ok (.slice (some ⟨w.heap.size, 0, none⟩) n n) (w.alloc (.cells X.toArray 51)) := by
  obtain ⟨i, hi, hz0, hz1, hz2⟩ := info_parts info51
  refine ⟨(madeCells (Value.agg #[.int .i32 0, .bool false]).cells (n * 2)).toList, by simp [madeCells], fun w => ?_⟩
  have hr := run_make (P := Try.prog) w 49 51 i _ Try.underlying49 hi hz0 .i64 .i64 (n : Int) (n : Int) (by omega) (by omega) (by rw [hz2]; omega) (by omega)
  rw [hr, hz1]
  simp only [Int.toNat_natCast]
theorem make52 (n : Nat) (hn : n ≤ 1048576) : ∃ X : List Value, X.length = n * 3 ∧ ∀ w : World, (Instr.makeSlice 52 (.int .i64 (n : Int)) (.int .i64 (n : Int))).run Try.prog w = .ok (.slice (some ⟨w.heap.size, 0, none⟩) n n) (w.alloc (.cells X.toArray 54)) := by
  obtain ⟨i, hi, hz0, hz1, hz2⟩ := info_parts info54
  refine ⟨(madeCells (Value.agg #[.string ⟨#[]⟩, .int .i32 0, .string ⟨#[]⟩]).cells (n * 3)).toList, by simp [madeCells], fun w => ?_⟩
  have hr := run_make (P := Try.prog) w 52 54 i _ Try.underlying52 hi hz0 .i64 .i64 (n : Int) (n : Int) (by omega) (by omega) (by rw [hz2]; omega) (by omega)
  rw [hr, hz1]
  simp only [Int.toNat_natCast]
theorem make55 (n : Nat) (hn : n ≤ 1048576) : ∃ X : List Value, X.length = (n + 1) * 3 ∧ ∀ w : World, (Instr.makeSlice 55 (.int .i64 ((n : Int) + 1)) (.int .i64 ((n : Int) + 1))).run Try.prog w = .ok (.slice (some ⟨w.heap.size, 0, none⟩) (n + 1) (n + 1)) (w.alloc (.cells X.toArray 57)) := by
  obtain ⟨i, hi, hz0, hz1, hz2⟩ := info_parts info57
  refine ⟨(madeCells (Value.agg #[.string ⟨#[]⟩, .slice none 0 0, .bool false]).cells ((n + 1) * 3)).toList, by simp [madeCells], fun w => ?_⟩
  have hr := run_make (P := Try.prog) w 55 57 i _ Try.underlying55 hi hz0 .i64 .i64 ((n + 1 : Nat) : Int) ((n + 1 : Nat) : Int) (by omega) (by omega) (by rw [hz2]; omega) (by omega)
  simp only [Int.natCast_add, Int.natCast_one] at hr
  rw [hr, hz1]
  have e1 : ((n : Int) + 1).toNat = n + 1 := by omega
  rw [e1]

/-- The events behind k rounds. -/
def EvsIs (L : Lists) (n k : Nat) (X : List Value) : Prop := X.length = n * 2 ∧ ∀ i, i < k → X[i * 2]? = some (.int .i32 (L.msgs.getD i 0)) ∧ X[i * 2 + 1]? = some (.bool (L.sends.getD i false))
theorem EvsIs.next {L : Lists} {n k : Nat} {X : List Value} (h : EvsIs L n k X) (hk : k < n) : EvsIs L n (k + 1) ((X.set (k * 2) (.int .i32 (L.msgs.getD k 0))).set (k * 2 + 1) (.bool (L.sends.getD k false))) := by
  refine ⟨by simp [h.1], fun i hi => ?_⟩
  have hl := h.1
  by_cases e : i = k
  · subst e
    constructor
    · rw [List.getElem?_set_ne (by omega), List.getElem?_set_self (by omega)]
    · rw [List.getElem?_set_self (by simp; omega)]
  · have := h.2 i (by omega)
    constructor
    · rw [List.getElem?_set_ne (by omega), List.getElem?_set_ne (by omega)]; exact this.1
    · rw [List.getElem?_set_ne (by omega), List.getElem?_set_ne (by omega)]; exact this.2
/-- The messages behind k rounds. -/
def MsIs (L : Lists) (n k : Nat) (X : List Value) : Prop := X.length = n * 3 ∧ ∀ i, i < k → X[i * 3 + 1]? = some (.int .i32 (L.sender.getD i 0))
theorem MsIs.next {L : Lists} {n k : Nat} {X : List Value} (h : MsIs L n k X) (hk : k < n) (u v : Value) : MsIs L n (k + 1) (((X.set (k * 3) u).set (k * 3 + 1) (.int .i32 (L.sender.getD k 0))).set (k * 3 + 2) v) := by
  refine ⟨by simp [h.1], fun i hi => ?_⟩
  have hl := h.1
  by_cases e : i = k
  · subst e
    rw [List.getElem?_set_ne (by omega), List.getElem?_set_self (by simp; omega)]
  · rw [List.getElem?_set_ne (by omega), List.getElem?_set_ne (by omega), List.getElem?_set_ne (by omega)]
    exact h.2 i (by omega)

theorem blk_at {w : World} {g : Nat} {cs : List Value} {e : TypeId} (h : Blk w g cs e) {j : Nat} (v : Value) : cs[j]? = some v → w.cell? ⟨g, j, none⟩ = some v := fun hj => (h.cell j).trans hj
/-- The memory that markEarly is run in. -/
structure LayE (L : Lists) (w W : World) (B pl pk pc gP gE gMs gS gM n1 n2 n3 : Nat) (a4 a5 a6 a7 a8 a9 a10 a11 : Option Addr) (n4 n5 n6 n7 n8 n9 n10 n11 c4 c5 c6 c7 c8 c9 c10 : Nat) : Prop where
  ord : OrdE B gS gM gE gMs gP pl pk pc
  stat : Stat L W B pl pk gP gE gMs n1 n2 a4 a5 a6 a7 a8 a9 a10 a11 n4 n5 n6 n7 n8 n9 n10 n11 c4 c5 c6 c7 c8 c9 c10 n11
  pc : Blk W pc (chk pl pk gS n3 gM n8 (.slice none 0 0) (.slice none 0 0) (.slice none 0 0)) 66
  gS : Blk W gS (ints .i32 L.seen) 21
  gM : Blk W gM (ints .i32 (List.replicate n8 0)) 21
  old : Below w.heap.size w W
theorem lay_early (L : Lists) (w w1 w2 : World) (p B gS gM n1 n2 n3 : Nat) (a4 a5 a6 a7 a8 a9 a10 a11 : Option Addr) (n4 n5 n6 n7 n8 n9 n10 n11 c4 c5 c6 c7 c8 c9 c10 : Nat) (X Y V : List Value) (hp : L.p = p) (o1 : B ≤ gS) (o2 : gS < gM)
    (hb : Below w.heap.size w w1) (hbX : Blk w1 w.heap.size X 51) (hX : EvsIs L n1 n1 X) (hb2 : Below w1.heap.size w1 w2) (hbY : Blk w2 w1.heap.size Y 54) (hY : MsIs L n2 n2 Y) (hV : V.length = (p + 1) * 3)
    (hS : Blk w gS (ints .i32 L.seen) 21) (hM : Blk w gM (ints .i32 (List.replicate n8 0)) 21)
    (r4 : RowB .i32 w B a4 n4 L.scope) (r5 : RowB .i32 w B a5 n5 L.stream) (r6 : RowB .i32 w B a6 n6 L.seq) (r7 : RowB .i64 w B a7 n7 L.row) (r8 : RowB .i32 w B a8 n8 L.ss) (r9 : RowB .i32 w B a9 n9 L.slot) (r10 : RowB .i32 w B a10 n10 L.width) (r11 : RowB .i32 w B a11 n11 L.rows) :
    LayE L w ((((w2.alloc (.cells (V.set (p * 3 + 1) (.slice (some ⟨w.heap.size, 0, none⟩) n1 n1)).toArray 57)).alloc (.cells #[.slice (some ⟨w2.heap.size, 0, none⟩) (p + 1) (p + 1), .map none, .slice (some ⟨w1.heap.size, 0, none⟩) n2 n2, .map none, .map none, .map none] 63)).alloc
      (.cells #[.slice a4 n4 c4, .slice a5 n5 c5, .slice a6 n6 c6, .slice none 0 0, .int .i32 0, .slice a10 n10 c10, .slice a8 n8 c8, .slice a9 n9 c9, .slice a7 n7 c7, .slice a11 n11 n11] 47)).alloc
      (.cells #[.pointer (some ⟨w2.heap.size + 1, 0, none⟩), .pointer (some ⟨w2.heap.size + 1 + 1, 0, none⟩), .slice none 0 0, .slice none 0 0, .slice none 0 0, .slice none 0 0, .slice (some ⟨gS, 0, none⟩) n3 n3, .slice (some ⟨gM, 0, none⟩) n8 n8, .slice none 0 0, .slice none 0 0, .slice none 0 0] 66))
      B (w2.heap.size + 1) (w2.heap.size + 1 + 1) (w2.heap.size + 1 + 1 + 1) w2.heap.size w.heap.size w1.heap.size gS gM n1 n2 n3 a4 a5 a6 a7 a8 a9 a10 a11 n4 n5 n6 n7 n8 n9 n10 n11 c4 c5 c6 c7 c8 c9 c10 := by
  subst hp
  have s0 := hM.lt
  have s1 := hb.size
  have s2 := hb2.size
  have lX := hbX.lt
  have lY := hbY.lt
  have bP : Blk (w2.alloc (.cells (V.set (L.p * 3 + 1) (.slice (some ⟨w.heap.size, 0, none⟩) n1 n1)).toArray 57)) w2.heap.size (V.set (L.p * 3 + 1) (.slice (some ⟨w.heap.size, 0, none⟩) n1 n1)) 57 := Blk.new _ _ _
  have bw : Below w.heap.size w (w2.alloc (.cells (V.set (L.p * 3 + 1) (.slice (some ⟨w.heap.size, 0, none⟩) n1 n1)).toArray 57)) := ((hb.trans (hb2.mono (by omega))).alloc (by omega) _)
  have bX : Blk (w2.alloc (.cells (V.set (L.p * 3 + 1) (.slice (some ⟨w.heap.size, 0, none⟩) n1 n1)).toArray 57)) w.heap.size X 51 := (hbX.below hb2 lX).alloc _
  have bY : Blk (w2.alloc (.cells (V.set (L.p * 3 + 1) (.slice (some ⟨w.heap.size, 0, none⟩) n1 n1)).toArray 57)) w1.heap.size Y 54 := hbY.alloc _
  have z1 : (w2.alloc (.cells (V.set (L.p * 3 + 1) (.slice (some ⟨w.heap.size, 0, none⟩) n1 n1)).toArray 57)).heap.size = w2.heap.size + 1 := by simp
  generalize (w2.alloc (.cells (V.set (L.p * 3 + 1) (.slice (some ⟨w.heap.size, 0, none⟩) n1 n1)).toArray 57)) = U1 at bP bw bX bY z1 ⊢
  have bL := Blk.new U1 [.slice (some ⟨w2.heap.size, 0, none⟩) (L.p + 1) (L.p + 1), .map none, .slice (some ⟨w1.heap.size, 0, none⟩) n2 n2, .map none, .map none, .map none] 63
  replace bP := bP.alloc (.cells #[.slice (some ⟨w2.heap.size, 0, none⟩) (L.p + 1) (L.p + 1), .map none, .slice (some ⟨w1.heap.size, 0, none⟩) n2 n2, .map none, .map none, .map none] 63)
  replace bX := bX.alloc (.cells #[.slice (some ⟨w2.heap.size, 0, none⟩) (L.p + 1) (L.p + 1), .map none, .slice (some ⟨w1.heap.size, 0, none⟩) n2 n2, .map none, .map none, .map none] 63)
  replace bY := bY.alloc (.cells #[.slice (some ⟨w2.heap.size, 0, none⟩) (L.p + 1) (L.p + 1), .map none, .slice (some ⟨w1.heap.size, 0, none⟩) n2 n2, .map none, .map none, .map none] 63)
  replace bw := bw.alloc (by omega) (.cells #[.slice (some ⟨w2.heap.size, 0, none⟩) (L.p + 1) (L.p + 1), .map none, .slice (some ⟨w1.heap.size, 0, none⟩) n2 n2, .map none, .map none, .map none] 63)
  rw [z1] at bL
  have z2 : (U1.alloc (.cells #[.slice (some ⟨w2.heap.size, 0, none⟩) (L.p + 1) (L.p + 1), .map none, .slice (some ⟨w1.heap.size, 0, none⟩) n2 n2, .map none, .map none, .map none] 63)).heap.size = w2.heap.size + 1 + 1 := by simp [z1]
  change Blk (U1.alloc (.cells #[.slice (some ⟨w2.heap.size, 0, none⟩) (L.p + 1) (L.p + 1), .map none, .slice (some ⟨w1.heap.size, 0, none⟩) n2 n2, .map none, .map none, .map none] 63)) _ _ _ at bL
  generalize (U1.alloc (.cells #[.slice (some ⟨w2.heap.size, 0, none⟩) (L.p + 1) (L.p + 1), .map none, .slice (some ⟨w1.heap.size, 0, none⟩) n2 n2, .map none, .map none, .map none] 63)) = U2 at bP bw bX bY bL z2 ⊢
  have bK := Blk.new U2 [.slice a4 n4 c4, .slice a5 n5 c5, .slice a6 n6 c6, .slice none 0 0, .int .i32 0, .slice a10 n10 c10, .slice a8 n8 c8, .slice a9 n9 c9, .slice a7 n7 c7, .slice a11 n11 n11] 47
  replace bP := bP.alloc (.cells #[.slice a4 n4 c4, .slice a5 n5 c5, .slice a6 n6 c6, .slice none 0 0, .int .i32 0, .slice a10 n10 c10, .slice a8 n8 c8, .slice a9 n9 c9, .slice a7 n7 c7, .slice a11 n11 n11] 47)
  replace bX := bX.alloc (.cells #[.slice a4 n4 c4, .slice a5 n5 c5, .slice a6 n6 c6, .slice none 0 0, .int .i32 0, .slice a10 n10 c10, .slice a8 n8 c8, .slice a9 n9 c9, .slice a7 n7 c7, .slice a11 n11 n11] 47)
  replace bY := bY.alloc (.cells #[.slice a4 n4 c4, .slice a5 n5 c5, .slice a6 n6 c6, .slice none 0 0, .int .i32 0, .slice a10 n10 c10, .slice a8 n8 c8, .slice a9 n9 c9, .slice a7 n7 c7, .slice a11 n11 n11] 47)
  replace bL := bL.alloc (.cells #[.slice a4 n4 c4, .slice a5 n5 c5, .slice a6 n6 c6, .slice none 0 0, .int .i32 0, .slice a10 n10 c10, .slice a8 n8 c8, .slice a9 n9 c9, .slice a7 n7 c7, .slice a11 n11 n11] 47)
  replace bw := bw.alloc (by omega) (.cells #[.slice a4 n4 c4, .slice a5 n5 c5, .slice a6 n6 c6, .slice none 0 0, .int .i32 0, .slice a10 n10 c10, .slice a8 n8 c8, .slice a9 n9 c9, .slice a7 n7 c7, .slice a11 n11 n11] 47)
  rw [z2] at bK
  have z3 : (U2.alloc (.cells #[.slice a4 n4 c4, .slice a5 n5 c5, .slice a6 n6 c6, .slice none 0 0, .int .i32 0, .slice a10 n10 c10, .slice a8 n8 c8, .slice a9 n9 c9, .slice a7 n7 c7, .slice a11 n11 n11] 47)).heap.size = w2.heap.size + 1 + 1 + 1 := by simp [z2]
  change Blk (U2.alloc (.cells #[.slice a4 n4 c4, .slice a5 n5 c5, .slice a6 n6 c6, .slice none 0 0, .int .i32 0, .slice a10 n10 c10, .slice a8 n8 c8, .slice a9 n9 c9, .slice a7 n7 c7, .slice a11 n11 n11] 47)) _ _ _ at bK
  generalize (U2.alloc (.cells #[.slice a4 n4 c4, .slice a5 n5 c5, .slice a6 n6 c6, .slice none 0 0, .int .i32 0, .slice a10 n10 c10, .slice a8 n8 c8, .slice a9 n9 c9, .slice a7 n7 c7, .slice a11 n11 n11] 47)) = U3 at bP bw bX bY bL bK z3 ⊢
  have bC := Blk.new U3 (chk (w2.heap.size + 1) (w2.heap.size + 1 + 1) gS n3 gM n8 (.slice none 0 0) (.slice none 0 0) (.slice none 0 0)) 66
  rw [z3] at bC
  have bw4 := bw.alloc (by omega) (.cells (chk (w2.heap.size + 1) (w2.heap.size + 1 + 1) gS n3 gM n8 (.slice none 0 0) (.slice none 0 0) (.slice none 0 0)).toArray 66)
  have rb : ∀ (k : IntKind) (a : Option Addr) (n : Nat) (zs : List Int), RowB k w B a n zs → RowB k (U3.alloc (.cells (chk (w2.heap.size + 1) (w2.heap.size + 1 + 1) gS n3 gM n8 (.slice none 0 0) (.slice none 0 0) (.slice none 0 0)).toArray 66)) B a n zs := fun k a n zs h => h.same (fun j hj => bw4.block j (by omega))
  refine ⟨⟨o1, o2, s0, by omega, by omega, by omega, by omega, by omega⟩, ⟨?_, ?_, ?_, ?_, ?_, ?_, ?_, ?_, ?_, ?_, ?_, ?_, ?_, ?_, rb _ _ _ _ r4, rb _ _ _ _ r5, rb _ _ _ _ r6, rb _ _ _ _ r7, rb _ _ _ _ r8, rb _ _ _ _ r9, rb _ _ _ _ r10, rb _ _ _ _ r11⟩, bC, hS.below bw4 hS.lt, hM.below bw4 hM.lt, bw4⟩
  · exact blk_at (bL.alloc _) _ rfl
  · exact blk_at (bL.alloc _) _ rfl
  · exact blk_at (bP.alloc _) _ (by rw [List.getElem?_set_self (by omega)])
  · exact fun i hi => blk_at (bX.alloc _) _ (hX.2 i hi).1
  · exact fun i hi => blk_at (bX.alloc _) _ (hX.2 i hi).2
  · exact fun i hi => blk_at (bY.alloc _) _ (hY.2 i hi)
  · exact blk_at (bK.alloc _) _ rfl
  · exact blk_at (bK.alloc _) _ rfl
  · exact blk_at (bK.alloc _) _ rfl
  · exact blk_at (bK.alloc _) _ rfl
  · exact blk_at (bK.alloc _) _ rfl
  · exact blk_at (bK.alloc _) _ rfl
  · exact blk_at (bK.alloc _) _ rfl
  · exact blk_at (bK.alloc _) _ rfl

/-- What ZZMarkEarly leaves. -/
def ZERet (L : Lists) (w : World) (gS gM n8 : Nat) (F : List Nat) (e : Ending) (w' : World) : Prop :=
  ∃ (vF vE : Value) (aS : Option Addr) (cS : Nat) (Z : List Int), e = .returned (.tuple #[vF, vE, .slice aS 0 cS]) ∧ Keeps (fun k => k = gS ∨ k = gM) w w' ∧
    w'.ownsRow w.heap.size 21 1 vF F.length (ints .i32 (natsZ F)) ∧ w'.ownsRow w.heap.size 4 1 vE F.length (bls (earlyOf L F)) ∧ Blk w' gS (ints .i32 Z) 21 ∧ SeenIs L F Z ∧ Blk w' gM (ints .i32 (List.replicate n8 0)) 21

set_option maxRecDepth 20000 in
set_option maxHeartbeats 8000000 in
theorem zmark_any (L : Lists) (hL : InE L) (B gA gB gS gM n1 n2 n3 c2 : Nat) (a2 a4 a5 a6 a7 a8 a9 a10 a11 : Option Addr) (n4 n5 n6 n7 n8 n9 n10 n11 c4 c5 c6 c7 c8 c9 c10 : Nat) (w : World)
    (hf : ∀ i, i < n1 → Fit L i) (hn : LensE L n1 n2 n3 n4 n5 n6 n7 n8 n9 n10 n11) (o1 : B ≤ gS) (o2 : gS < gM)
    (hA : Blk w gA (ints .i32 L.msgs) 21) (hB : Blk w gB (bls L.sends) 4) (r2 : Row .i32 w a2 n2 L.sender) (hS : Blk w gS (ints .i32 L.seen) 21) (hM : Blk w gM (ints .i32 (List.replicate n8 0)) 21)
    (r4 : RowB .i32 w B a4 n4 L.scope) (r5 : RowB .i32 w B a5 n5 L.stream) (r6 : RowB .i32 w B a6 n6 L.seq) (r7 : RowB .i64 w B a7 n7 L.row) (r8 : RowB .i32 w B a8 n8 L.ss) (r9 : RowB .i32 w B a9 n9 L.slot) (r10 : RowB .i32 w B a10 n10 L.width) (r11 : RowB .i32 w B a11 n11 L.rows) :
    Calls Try.prog 16 #[.int .i32 (L.p : Int), .slice (some ⟨gA, 0, none⟩) n1 n1, .slice (some ⟨gB, 0, none⟩) n1 n1, .slice a2 n2 c2, .slice (some ⟨gS, 0, none⟩) n3 n3, .slice a4 n4 c4, .slice a5 n5 c5, .slice a6 n6 c6, .slice a7 n7 c7, .slice a8 n8 c8, .slice a9 n9 c9, .slice a10 n10 c10, .slice a11 n11 n11, .slice (some ⟨gM, 0, none⟩) n8 n8] w (ZERet L w gS gM n8 (firstTo L n1)) := by
  have HF := hid hf
  have HN := hid hn
  have HA := hid hA
  have HB := hid hB
  have R2 := hid r2
  have HS := hid hS
  have HM := hid hM
  have R4 := hid r4
  have R5 := hid r5
  have R6 := hid r6
  have R7 := hid r7
  have R8 := hid r8
  have R9 := hid r9
  have R10 := hid r10
  have R11 := hid r11
  obtain ⟨X0, hX0, hmk1⟩ := make49 n1 (by have := hn.sum; omega)
  replace hX0 := hid hX0
  obtain ⟨p, hp⟩ : ∃ p, Hid (L.p = p) := ⟨_, rfl⟩
  have ip : (p : Int) ≤ 65536 := by have := hL.p; rw [hp.out] at this; omega
  rw [hp.out]
  have j1 : (n1 : Int) ≤ 1048576 := by have := hn.sum; omega
  have j2 : (n2 : Int) ≤ 1048576 := by have := hn.sum; omega
  have hMlt := hM.lt
  clear hf hn hA hB r2 hS hM r4 r5 r6 r7 r8 r9 r10 r11
  go_enter Try.func16, Try.ntmps16
  go_wp2
  clear hmk1
  go_loopw [42] (fun i wr => ∃ (k : Nat) (X : List Value), k ≤ n1 ∧ i = .int .i64 k ∧ Hid (Blk wr w.heap.size X 51) ∧ Hid (EvsIs L n1 k X) ∧ Hid (Below w.heap.size w wr)) (fun i _ => n1 - (intOf i).toNat)
  case atStart => exact ⟨0, X0, Nat.zero_le _, rfl, hid (Blk.new w X0 51), hid ⟨hX0.out, fun i hi => absurd hi (by omega)⟩, hid ((Below.refl _ _).alloc (Nat.le_refl _) _)⟩
  case round =>
    obtain ⟨k, X, hk, rfl, hblk, hev, hb⟩ := hrel
    by_cases hlt : k < n1
    · have hlt' : (k : Int) < (n1 : Int) := by omega
      obtain ⟨z, hz⟩ : ∃ z, Hid (L.msgs.getD k 0 = z) := ⟨_, rfl⟩
      obtain ⟨s, hs⟩ : ∃ z, Hid (L.sends.getD k false = z) := ⟨_, rfl⟩
      have cz : wr.cell? ⟨gA, k, none⟩ = some (.int .i32 z) := by rw [hb.out.cell (p := ⟨gA, k, none⟩) HA.out.lt, HA.out.int (by rw [HN.out.l1]; exact hlt), hz.out]
      have cs : wr.cell? ⟨gB, k, none⟩ = some (.bool s) := by rw [hb.out.cell (p := ⟨gB, k, none⟩) HB.out.lt, HB.out.cell, bls_get _ _ (by rw [HN.out.l1']; exact hlt), hs.out]
      obtain ⟨u0, hu0⟩ : ∃ u, X[k * 2]? = some u := ⟨_, List.getElem?_eq_getElem (by rw [hev.out.1]; omega)⟩
      obtain ⟨u1, hu1⟩ : ∃ u, X[k * 2 + 1]? = some u := ⟨_, List.getElem?_eq_getElem (by rw [hev.out.1]; omega)⟩
      have g0' : wr.cell? ⟨w.heap.size, k * 2, none⟩ = some u0 := by rw [hblk.out.cell, hu0]
      have g1' : wr.cell? ⟨w.heap.size, k * 2 + 1, none⟩ = some u1 := by rw [hblk.out.cell, hu1]
      have f0 := hblk.out.frozen (k * 2)
      have f1 := hblk.out.frozen (k * 2 + 1)
      clear hu0 hu1
      go_wp2
      go_region
      all_goals go_wp2
      go_roundw
      case rel =>
        have h9 := hev.out.next hlt
        rw [hz.out, hs.out] at h9
        refine ⟨k + 1, _, by omega, by go_num, hid (((hblk.out.set (k * 2) (.int .i32 z)).set (k * 2 + 1) (.bool s)).drew), hid h9, hid ((hb.out.setCell (Nat.le_refl _) _).setCell (Nat.le_refl _) _).drew⟩
      case measure => simp [intOf]; omega
    · have ek : n1 = k := by omega
      subst ek
      obtain ⟨w1, rfl⟩ : ∃ x, x = wr := ⟨_, rfl⟩
      obtain ⟨Y0, hY0, hmk2⟩ := make52 n2 (by omega)
      replace hY0 := hid hY0
      go_wp2
      clear hmk2
      go_loopw [63] (fun i wr => ∃ (k : Nat) (Y : List Value), k ≤ n2 ∧ i = .int .i64 k ∧ Hid (Blk wr w1.heap.size Y 54) ∧ Hid (MsIs L n2 k Y) ∧ Hid (Below w1.heap.size w1 wr)) (fun i _ => n2 - (intOf i).toNat)
      case atStart => exact ⟨0, Y0, Nat.zero_le _, rfl, hid (Blk.new w1 Y0 54), hid ⟨hY0.out, fun i hi => absurd hi (by omega)⟩, hid ((Below.refl _ _).alloc (Nat.le_refl _) _)⟩
      case round =>
        obtain ⟨k, Y, hk2, rfl, hbY, hms, hb2⟩ := hrel
        by_cases hlt2 : k < n2
        · have hlt2' : (k : Int) < (n2 : Int) := by omega
          obtain ⟨z, hz⟩ : ∃ z, Hid (L.sender.getD k 0 = z) := ⟨_, rfl⟩
          obtain ⟨g2, o2a, ea2, hg2, hc2⟩ := R2.out.2 (by omega)
          subst ea2
          have cz : wr.cell? ⟨g2, o2a + k, none⟩ = some (.int .i32 z) := by rw [hb2.out.cell (p := ⟨g2, o2a + k, none⟩) (show g2 < w1.heap.size by have := hb.out.size; omega), hb.out.cell (p := ⟨g2, o2a + k, none⟩) hg2, hc2 k hlt2, hz.out]
          obtain ⟨u0, hu0⟩ : ∃ u, Y[k * 3]? = some u := ⟨_, List.getElem?_eq_getElem (by rw [hms.out.1]; omega)⟩
          have g0' : wr.cell? ⟨w1.heap.size, k * 3, none⟩ = some u0 := by rw [hbY.out.cell, hu0]
          have f0 := hbY.out.frozen (k * 3)
          obtain ⟨u1, hu1⟩ : ∃ u, Y[k * 3 + 1]? = some u := ⟨_, List.getElem?_eq_getElem (by rw [hms.out.1]; omega)⟩
          have g1' : wr.cell? ⟨w1.heap.size, k * 3 + 1, none⟩ = some u1 := by rw [hbY.out.cell, hu1]
          have f1 := hbY.out.frozen (k * 3 + 1)
          obtain ⟨u2, hu2⟩ : ∃ u, Y[k * 3 + 2]? = some u := ⟨_, List.getElem?_eq_getElem (by rw [hms.out.1]; omega)⟩
          have g2' : wr.cell? ⟨w1.heap.size, k * 3 + 2, none⟩ = some u2 := by rw [hbY.out.cell, hu2]
          have f2 := hbY.out.frozen (k * 3 + 2)
          clear hu0 hu1 hu2 hc2
          go_wp2
          go_roundw
          case rel =>
            have h9 := hms.out.next hlt2 (.string ⟨#[]⟩) (.string ⟨#[]⟩)
            rw [hz.out] at h9
            refine ⟨k + 1, _, by omega, by go_num, hid (((hbY.out.set (k * 3) (.string ⟨#[]⟩)).set (k * 3 + 1) (.int .i32 z)).set (k * 3 + 2) (.string ⟨#[]⟩)), hid h9, hid (((hb2.out.setCell (Nat.le_refl _) _).setCell (Nat.le_refl _) _).setCell (Nat.le_refl _) _)⟩
          case measure => simp [intOf]; omega
        · have ek : n2 = k := by omega
          subst ek
          obtain ⟨w2, rfl⟩ : ∃ x, x = wr := ⟨_, rfl⟩
          obtain ⟨V0, hV0, hmk3⟩ := make55 p (by omega)
          obtain ⟨u0, hu0⟩ : ∃ u, V0[p * 3 + 1]? = some u := ⟨_, List.getElem?_eq_getElem (by rw [hV0]; omega)⟩
          have cV : (w2.alloc (.cells V0.toArray 57)).cell? ⟨w2.heap.size, p * 3 + 1, none⟩ = some u0 := by rw [(Blk.new w2 V0 57).cell, hu0]
          have fV := (Blk.new w2 V0 57).frozen (p * 3 + 1)
          replace hV0 := hid hV0
          clear hu0
          have LY := hid (lay_early L w w1 w2 p B gS gM n1 n2 n3 a4 a5 a6 a7 a8 a9 a10 a11 n4 n5 n6 n7 n8 n9 n10 n11 c4 c5 c6 c7 c8 c9 c10 X Y V0 hp.out o1 o2 hb.out hblk.out hev.out hb2.out hbY.out hms.out hV0.out HS.out HM.out R4.out R5.out R6.out R7.out R8.out R9.out R10.out R11.out)
          go_wp2_with fail
          have MK := mark_any L hL B (w2.heap.size + 1) (w2.heap.size + 1 + 1) (w2.heap.size + 1 + 1 + 1) w2.heap.size w.heap.size w1.heap.size gS gM n1 n2 n3 a4 a5 a6 a7 a8 a9 a10 a11 n4 n5 n6 n7 n8 n9 n10 n11 c4 c5 c6 c7 c8 c9 c10 n11 _ HF.out HN.out LY.out.ord LY.out.stat LY.out.pc LY.out.gS LY.out.gM
          rw [hp.out] at MK
          have OLD := hid LY.out.old
          refine MK.mono ?_
          clear MK LY
          rintro e w' ⟨rfl, vF, vE, aS, cS, Z, hmid, hear⟩
          obtain ⟨aF, cF, rfl⟩ := slice_of_own hmid.own
          obtain ⟨aE, cE, rfl⟩ := slice_of_own hear
          have d4 : w'.cell? ⟨w2.heap.size + 1 + 1 + 1, 4, none⟩ = some (.slice aF (firstTo L n1).length cF) := by rw [hmid.pc.cell]; rfl
          have d5 : w'.cell? ⟨w2.heap.size + 1 + 1 + 1, 5, none⟩ = some (.slice aE (firstTo L n1).length cE) := by rw [hmid.pc.cell]; rfl
          have d8 : w'.cell? ⟨w2.heap.size + 1 + 1 + 1, 8, none⟩ = some (.slice aS 0 cS) := by rw [hmid.pc.cell]; rfl
          replace hmid := hid hmid; replace hear := hid hear
          go_wp2
          go_quiet (fail)
          go_wp2
          go_ret3
          have hsz := OLD.out.size
          have hss := hb.out.size
          have hss2 := hb2.out.size
          refine ⟨_, _, aS, cS, Z, rfl, ?_, own_base hmid.out.own hsz, own_base hear.out hsz, hmid.out.gS.drewN _, hmid.out.seen, hmid.out.gM.drewN _⟩
          have hk := hmid.out.kp
          refine Keeps.drewN ⟨hk.os.trans OLD.out.os, hk.tape.trans OLD.out.tape, hk.output.trans OLD.out.output, Nat.le_trans hsz hk.size, fun i hi hs => ?_⟩ _
          rw [hk.block i (by omega) (by unfold Wr; omega), OLD.out.block i hi]
end Go.Proofs.Qxb6603398a
