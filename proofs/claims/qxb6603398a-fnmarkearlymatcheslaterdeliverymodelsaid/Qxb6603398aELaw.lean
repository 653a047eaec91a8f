/-
  THE LAW's OWN WALK (FnMarkEarlyMatchesLaterDeliveryModel).
-/
import Derived.Test.Qxb6603398aRows
import Derived.Test.Qxb6603398aEBytes
import Derived.Test.Qxb6603398aEIndex
import Derived.Test.Qxb6603398aEFits
import Derived.Test.Qxb6603398aEZ
import Derived.Deep.CutRange
import Derived.Deep.CutBlock

namespace Go.Proofs.Qxb6603398a
open Go.RowKit Mem Early E
set_option linter.unusedVariables false

theorem nil29 (a : Option Addr) (n c : Nat) (w : World) : (binOp BinOp.neq 29 (.slice a n c) (.slice none 0 0)).run Try.prog w = .ok (.bool a.isSome) w := by
  cases a <;> kernel_rfl
theorem nil30 (a : Option Addr) (n c : Nat) (w : World) : (binOp BinOp.neq 30 (.slice a n c) (.slice none 0 0)).run Try.prog w = .ok (.bool a.isSome) w := by
  cases a <;> kernel_rfl
theorem row_blk {k : IntKind} {w : World} {g n : Nat} {zs : List Int} {e : TypeId} (h : Blk w g (ints k zs) e) (hn : zs.length = n) : Row k w (some ⟨g, 0, none⟩) n zs := by
  subst hn
  exact Row.ofBlk (rest := []) (by simpa using h)

theorem own_row {w : World} {base : Nat} {a : Option Addr} {n c : Nat} {zs : List Int} (h : w.ownsRow base 21 1 (.slice a n c) n (ints .i32 zs)) : Row .i32 w a n zs := by
  have hl : zs.length = n := by have := h.1; rw [ints_length] at this; omega
  refine ⟨hl, fun hn => ?_⟩
  obtain ⟨g, rfl, _, hlt, _⟩ := own_some h hn
  refine ⟨g, 0, rfl, hlt, fun i hi => ?_⟩
  rw [Nat.zero_add, (own_cell h rfl hi).1]
  simp [ints, List.getD, show i < zs.length by omega]
theorem mem_natsZ {F : List Nat} {m : Nat} : (m : Int) ∈ natsZ F ↔ m ∈ F := by
  simp only [natsZ, List.mem_map]
  exact ⟨fun ⟨x, hx, e⟩ => (Int.ofNat.inj e) ▸ hx, fun h => ⟨m, h, rfl⟩⟩
theorem below_grow {B : Nat} {V w w' : World} {v : Value} {e : TypeId} {size n : Nat} {xs : List Value} (h : Below B V w) (hB : B ≤ w.heap.size) (hg : w.grownBy w' v.ownBlock) (ho : w.ownsRow B e size v n xs) : Below B V w' :=
  ⟨hg.os.trans h.os, hg.tape.trans h.tape, hg.output.trans h.output, Nat.le_trans h.size hg.size, fun k hk => (hg.block k (by omega) (ownBlock_ge ho hk)).trans (h.block k hk)⟩
theorem firstTo_stay {L : Lists} {k : Nat} (h : ¬ (keep L k = true ∧ L.msgN k ∉ firstTo L k)) : firstTo L (k + 1) = firstTo L k := by rw [firstTo, if_neg h]
theorem firstTo_more {L : Lists} {k : Nat} (h : keep L k = true ∧ L.msgN k ∉ firstTo L k) : firstTo L (k + 1) = firstTo L k ++ [L.msgN k] := by rw [firstTo, if_pos h]

/-- The law's own markings behind k messages. -/
def EarUp (L : Lists) (F : List Nat) (k : Nat) (H : List Bool) : Prop := H.length = F.length ∧ ∀ i, i < F.length → H.getD i false = if i < k then (earlyOf L F).getD i false else false
theorem EarUp.start (L : Lists) (F : List Nat) : EarUp L F 0 (List.replicate F.length false) := by
  refine ⟨by simp, fun i hi => ?_⟩
  rw [if_neg (by omega)]
  simp [List.getD, hi]
theorem EarUp.set {L : Lists} {F : List Nat} {k : Nat} {H : List Bool} (h : EarUp L F k H) (hk : k < F.length) (he : (F.drop (k + 1)).any (hit L (F.getD k 0)) = true) : EarUp L F (k + 1) (H.set k true) := by
  refine ⟨by simp [h.1], fun i hi => ?_⟩
  by_cases e : i = k
  · subst e
    rw [if_pos (by omega), earlyOf_get L F i hi, he]
    simp [List.getD, h.1, hi]
  · have : (H.set k true).getD i false = H.getD i false := by simp [List.getD, show ¬ k = i by omega]
    rw [this, h.2 i hi]
    by_cases e2 : i < k
    · rw [if_pos e2, if_pos (by omega)]
    · rw [if_neg e2, if_neg (by omega)]
theorem EarUp.stay {L : Lists} {F : List Nat} {k : Nat} {H : List Bool} (h : EarUp L F k H) (hk : k < F.length) (he : (F.drop (k + 1)).any (hit L (F.getD k 0)) = false) : EarUp L F (k + 1) H := by
  refine ⟨h.1, fun i hi => ?_⟩
  rw [h.2 i hi]
  by_cases e : i = k
  · subst e
    rw [if_neg (by omega), if_pos (by omega), earlyOf_get L F i hi, he]
  · by_cases e2 : i < k
    · rw [if_pos e2, if_pos (by omega)]
    · rw [if_neg e2, if_neg (by omega)]
theorem EarUp.done {L : Lists} {F : List Nat} {H : List Bool} (h : EarUp L F F.length H) : H = earlyOf L F := by
  apply List.ext_getElem (by rw [h.1, earlyOf_len])
  intro i h1 h2
  have := h.2 i (by rw [← h.1]; exact h1)
  rw [if_pos (by rw [← h.1]; exact h1)] at this
  simpa only [List.getD, List.getElem?_eq_getElem h1, List.getElem?_eq_getElem h2, Option.getD_some] using this
theorem any_of_hit {L : Lists} {F : List Nat} {b k j : Nat} (h1 : k + 1 ≤ j) (h2 : j < F.length) (h : hit L b (F.getD j 0) = true) : (F.drop (k + 1)).any (hit L b) = true := by
  rw [List.any_eq_true]
  refine ⟨F.getD j 0, ?_, h⟩
  rw [List.mem_drop_iff_getElem]
  exact ⟨j - (k + 1), by omega, by simp [List.getD, h2, show k + 1 + (j - (k + 1)) = j by omega]⟩
theorem none_of_hit {L : Lists} {F : List Nat} {b k : Nat} (h : ∀ x, k + 1 ≤ x → x < F.length → hit L b (F.getD x 0) = false) : (F.drop (k + 1)).any (hit L b) = false := by
  cases e : (F.drop (k + 1)).any (hit L b) with
  | false => rfl
  | true =>
    obtain ⟨d, hd, h1⟩ := List.any_eq_true.1 e
    rw [List.mem_drop_iff_getElem] at hd
    obtain ⟨x, hx, rfl⟩ := hd
    have hx2 : k + 1 + x < F.length := by omega
    have h9 := h (k + 1 + x) (by omega) hx2
    simp only [List.getD, List.getElem?_eq_getElem hx2, Option.getD_some] at h9
    rw [h9] at h1; cases h1

/-- The two columns behind k events. -/
def CpIs (L : Lists) (n k : Nat) (A : List Int) (H : List Bool) : Prop := A.length = n ∧ H.length = n ∧ ∀ i, i < k → A.getD i 0 = L.msgs.getD i 0 ∧ H.getD i false = L.sends.getD i false
theorem CpIs.start (L : Lists) (n : Nat) : CpIs L n 0 (List.replicate n 0) (List.replicate n false) := ⟨by simp, by simp, fun i hi => absurd hi (by omega)⟩
theorem CpIs.next {L : Lists} {n k : Nat} {A : List Int} {H : List Bool} (h : CpIs L n k A H) (hk : k < n) : CpIs L n (k + 1) (A.set k (L.msgs.getD k 0)) (H.set k (L.sends.getD k false)) := by
  refine ⟨by simp [h.1], by simp [h.2.1], fun i hi => ?_⟩
  have h1 := h.1
  have h2 := h.2.1
  by_cases e : i = k
  · subst e
    simp [List.getD, h1, h2, hk]
  · have := h.2.2 i (by omega)
    simp only [List.getD, List.getElem?_set_ne (show k ≠ i by omega)]
    exact this
theorem CpIs.done {L : Lists} {n : Nat} {A : List Int} {H : List Bool} (h : CpIs L n n A H) (l1 : L.msgs.length = n) (l2 : L.sends.length = n) : A = L.msgs ∧ H = L.sends := by
  constructor
  · apply List.ext_getElem (by rw [h.1, l1])
    intro i h1 h2
    have := (h.2.2 i (by rw [← h.1]; exact h1)).1
    simpa only [List.getD, List.getElem?_eq_getElem h1, List.getElem?_eq_getElem h2, Option.getD_some] using this
  · apply List.ext_getElem (by rw [h.2.1, l2])
    intro i h1 h2
    have := (h.2.2 i (by rw [← h.2.1]; exact h1)).2
    simpa only [List.getD, List.getElem?_eq_getElem h1, List.getElem?_eq_getElem h2, Option.getD_some] using this
theorem blk_new2 (w : World) (o : Obj) (cs : List Value) (e : TypeId) : Blk ((w.alloc o).alloc (.cells cs.toArray e)) (w.heap.size + 1) cs e := by
  have := Blk.new (w.alloc o) cs e
  rwa [show (w.alloc o).heap.size = w.heap.size + 1 by simp] at this
theorem rowb_of {k : IntKind} {V W : World} {a : Option Addr} {n : Nat} {zs : List Int} (h : Row k V a n zs) (hb : Below V.heap.size V W) : RowB k W V.heap.size a n zs := by
  refine ⟨h.1, fun hn => ?_⟩
  obtain ⟨b, off, e, hlt, hc⟩ := h.2 hn
  exact ⟨b, off, e, hlt, fun i hi => by rw [hb.cell (p := ⟨b, off + i, none⟩) hlt]; exact hc i hi⟩
/-- The listed messages' marks behind k messages. -/
def InIs (F : List Nat) (n k : Nat) (H : List Bool) : Prop := H.length = n ∧ ∀ m, m < n → H.getD m false = decide (m ∈ F.take k)
theorem InIs.start (F : List Nat) (n : Nat) : InIs F n 0 (List.replicate n false) := ⟨by simp, fun m hm => by simp [List.getD, hm]⟩
theorem InIs.next {F : List Nat} {n k : Nat} {H : List Bool} (h : InIs F n k H) (hk : k < F.length) (hb : F.getD k 0 < n) : InIs F n (k + 1) (H.set (F.getD k 0) true) := by
  refine ⟨by simp [h.1], fun m hm => ?_⟩
  have e0 : F.getD k 0 = F[k] := by simp [List.getD, hk]
  rw [List.take_succ_eq_append_getElem hk, ← e0]
  have h1 := h.1
  by_cases e : m = F.getD k 0
  · rw [← e]
    simp [List.getD, h1, hm]
  · have e2 : (H.set (F.getD k 0) true).getD m false = H.getD m false := by simp only [List.getD, List.getElem?_set_ne (show F[k]?.getD 0 ≠ m from fun x => e x.symm)]
    rw [e2, h.2 m hm]
    simp only [List.mem_append, List.mem_singleton, e, or_false]
theorem InIs.done {F : List Nat} {n : Nat} {H : List Bool} (h : InIs F n F.length H) {m : Nat} (hm : m < n) : H.getD m false = decide (m ∈ F) := by rw [h.2 m hm, List.take_length]

set_option maxRecDepth 20000 in
set_option maxHeartbeats 20000000 in
theorem law_in (L : Lists) (hL : InE L) (a1 a2 a3 a4 a5 a6 a7 a8 a9 a10 a11 : Option Addr) (n1 n2 n3 n4 n5 n6 n7 n8 n9 n10 n11 c1 c2 c3 c4 c5 c6 c7 c8 c9 c10 c11 : Nat) (w : World) (r1 : EvRow w a1 n1 L.msgs L.sends) (r2 : Row .i32 w a2 n2 L.sender) (r3 : Row .i32 w a3 n3 L.seen) (r4 : Row .i32 w a4 n4 L.scope) (r5 : Row .i32 w a5 n5 L.stream) (r6 : Row .i32 w a6 n6 L.seq) (r7 : Row .i64 w a7 n7 L.row) (r8 : Row .i32 w a8 n8 L.ss) (r9 : Row .i32 w a9 n9 L.slot) (r10 : Row .i32 w a10 n10 L.width) (r11 : Row .i32 w a11 n11 L.rows) (q1 : n1 ≤ maxLen) (q2 : n2 ≤ maxLen) (q3 : n3 ≤ maxLen) (q4 : n4 ≤ maxLen) (q5 : n5 ≤ maxLen) (q6 : n6 ≤ maxLen) (q7 : n7 ≤ maxLen) (q8 : n8 ≤ maxLen) (q9 : n9 ≤ maxLen) (q10 : n10 ≤ maxLen) (q11 : n11 ≤ maxLen) (e2 : a2 = none → n2 = 0 ∧ c2 = 0) (e4 : a4 = none → n4 = 0 ∧ c4 = 0) (e5 : a5 = none → n5 = 0 ∧ c5 = 0) (e6 : a6 = none → n6 = 0 ∧ c6 = 0) (e7 : a7 = none → n7 = 0 ∧ c7 = 0) (e8 : a8 = none → n8 = 0 ∧ c8 = 0) (e9 : a9 = none → n9 = 0 ∧ c9 = 0) (e10 : a10 = none → n10 = 0 ∧ c10 = 0) (e11 : a11 = none → n11 = 0 ∧ c11 = 0) :
    Calls Try.prog 5 #[.int .i32 (L.p : Int), .slice a1 n1 c1, .slice a2 n2 c2, .slice a3 n3 c3, .slice a4 n4 c4, .slice a5 n5 c5, .slice a6 n6 c6, .slice a7 n7 c7, .slice a8 n8 c8, .slice a9 n9 c9, .slice a10 n10 c10, .slice a11 n11 c11] w (TrueRet w) := by
  have R1 := hid r1
  have R2 := hid r2
  have R3 := hid r3
  have R4 := hid r4
  have R5 := hid r5
  have R6 := hid r6
  have R7 := hid r7
  have R8 := hid r8
  have R9 := hid r9
  have R10 := hid r10
  have R11 := hid r11
  have E2 := hid e2
  have E4 := hid e4
  have E5 := hid e5
  have E6 := hid e6
  have E7 := hid e7
  have E8 := hid e8
  have E9 := hid e9
  have E10 := hid e10
  have E11 := hid e11
  clear r1 r2 r3 r4 r5 r6 r7 r8 r9 r10 r11 e2 e4 e5 e6 e7 e8 e9 e10 e11
  obtain ⟨p, hp⟩ : ∃ p, Hid (L.p = p) := ⟨_, rfl⟩
  have ip : (p : Int) ≤ 65536 := by have := hL.p; rw [hp.out] at this; omega
  have dp0 : decide ((p : Int) < 0) = false := by simp
  have dp1 : decide ((65536 : Int) < (p : Int)) = false := by simp; omega
  rw [hp.out]
  go_enter Try.func5, Try.ntmps5
  go_wp2_with fail
  refine (bytes_early (p : Int) a1 a2 a3 a4 a5 a6 a7 a8 a9 a10 a11 n1 n2 n3 n4 n5 n6 n7 n8 n9 n10 n11 c1 c2 c3 c4 c5 c6 c7 c8 c9 c10 c11 _ q1 q2 q3 q4 q5 q6 q7 q8 q9 q10 q11).mono ?_
  rintro e w' ⟨b, rfl, hsum, rfl⟩
  have HSUM := hid hsum
  clear hsum q1 q2 q3 q4 q5 q6 q7 q8 q9 q10 q11
  cases b
  · go_wp2
    go_ret
    exact ⟨rfl, Below.refl _ _⟩
  have hs : n1 + n2 + n3 + n4 + n5 + n6 + n7 + n8 + n9 + n10 + n11 ≤ 1048576 := HSUM.out (by simp)
  clear HSUM
  have i1 : (n1 : Int) ≤ 1048576 := by omega
  have i2 : (n2 : Int) ≤ 1048576 := by omega
  have d2 : decide ((1048576 : Int) < (n2 : Int)) = false := by simp; omega
  have i3 : (n3 : Int) ≤ 1048576 := by omega
  have d3 : decide ((1048576 : Int) < (n3 : Int)) = false := by simp; omega
  have i4 : (n4 : Int) ≤ 1048576 := by omega
  have d4 : decide ((1048576 : Int) < (n4 : Int)) = false := by simp; omega
  have i5 : (n5 : Int) ≤ 1048576 := by omega
  have d5 : decide ((1048576 : Int) < (n5 : Int)) = false := by simp; omega
  have i6 : (n6 : Int) ≤ 1048576 := by omega
  have d6 : decide ((1048576 : Int) < (n6 : Int)) = false := by simp; omega
  have i7 : (n7 : Int) ≤ 1048576 := by omega
  have d7 : decide ((1048576 : Int) < (n7 : Int)) = false := by simp; omega
  have i8 : (n8 : Int) ≤ 1048576 := by omega
  have d8 : decide ((1048576 : Int) < (n8 : Int)) = false := by simp; omega
  have i9 : (n9 : Int) ≤ 1048576 := by omega
  have d9 : decide ((1048576 : Int) < (n9 : Int)) = false := by simp; omega
  have i10 : (n10 : Int) ≤ 1048576 := by omega
  have d10 : decide ((1048576 : Int) < (n10 : Int)) = false := by simp; omega
  have i11 : (n11 : Int) ≤ 1048576 := by omega
  have d11 : decide ((1048576 : Int) < (n11 : Int)) = false := by simp; omega
  by_cases hn1 : n1 ≤ 4096
  rotate_left
  · have d1 : decide ((4096 : Int) < (n1 : Int)) = true := by simp; omega
    go_wp2
    go_ret
    exact ⟨rfl, Below.refl _ _⟩
  have d1 : decide ((4096 : Int) < (n1 : Int)) = false := by simp; omega
  go_wp2_with fail
  have FT := fits_early L hL a1 a2 a3 a4 a5 a6 a7 a8 a9 a10 a11 n1 n2 n3 n4 n5 n6 n7 n8 n9 n10 n11 c1 c2 c3 c4 c5 c6 c7 c8 c9 c10 c11 w R1.out R2.out R3.out R4.out R5.out R6.out R7.out R8.out R9.out R10.out R11.out hs hn1
  rw [hp.out] at FT
  refine FT.mono ?_
  clear FT
  rintro e w2 ⟨b, rfl, hfit, hb2⟩
  have HFIT := hid hfit
  have HB := hid hb2
  clear hfit hb2
  cases b
  · go_wp2
    go_ret
    exact ⟨rfl, HB.out⟩
  have HF : Hid (∀ i, i < n1 → Fit L i) := hid (by have := HFIT.out (by simp); rw [R1.out.1] at this; exact this)
  have HN : Hid (LensE L n1 n2 n3 n4 n5 n6 n7 n8 n9 n10 n11) := hid ⟨R1.out.1, R1.out.2.1, R2.out.1, R3.out.1, R4.out.1, R5.out.1, R6.out.1, R7.out.1, R8.out.1, R9.out.1, R10.out.1, R11.out.1, hs⟩
  clear HFIT d1 d2 d3 d4 d5 d6 d7 d8 d9 d10 d11 dp0 dp1
  replace R1 := hid (R1.out.below HB.out)
  replace R2 := hid (R2.out.below HB.out)
  replace R3 := hid (R3.out.below HB.out)
  replace R4 := hid (R4.out.below HB.out)
  replace R5 := hid (R5.out.below HB.out)
  replace R6 := hid (R6.out.below HB.out)
  replace R7 := hid (R7.out.below HB.out)
  replace R8 := hid (R8.out.below HB.out)
  replace R9 := hid (R9.out.below HB.out)
  replace R10 := hid (R10.out.below HB.out)
  replace R11 := hid (R11.out.below HB.out)
  have nt29 := nil29
  have nt30 := nil30
  go_upto_if 149 with fail
  go_cut [2] from 148 to 156 (fun s wx => ∃ a : Option Addr, s = .slice a n2 n2 ∧ Hid (Row .i32 wx a n2 L.sender) ∧ Hid (Below w2.heap.size w2 wx))
  case first =>
    clear nt29 nt30
    cases a2 with
    | none =>
      obtain ⟨rfl, rfl⟩ := E2.out rfl
      go_wp2_with fail
      go_meet
      exact ⟨none, rfl, R2, hid (Below.refl _ _)⟩
    | some x =>
      obtain ⟨g, W', hg, mk, cp, HBk, HBl, HZ⟩ := mk_copy29 w2 (some x) n2 c2 L.sender (by omega) R2.out
      go_wp2_with fail
      go_meet
      exact ⟨some ⟨g, 0, none⟩, rfl, hid (row_blk HBk.out HN.out.l2), hid (by rw [← hg.out]; exact HBl.out)⟩
  case rest =>
  obtain ⟨b2, rfl, X2, T2⟩ := hcut
  obtain ⟨V2, rfl⟩ : ∃ x, x = wc := ⟨_, rfl⟩
  clear R2 E2
  have R2 := X2
  clear X2
  replace R1 := hid (R1.out.below T2.out)
  replace R3 := hid (R3.out.below T2.out)
  replace R4 := hid (R4.out.below T2.out)
  replace R5 := hid (R5.out.below T2.out)
  replace R6 := hid (R6.out.below T2.out)
  replace R7 := hid (R7.out.below T2.out)
  replace R8 := hid (R8.out.below T2.out)
  replace R9 := hid (R9.out.below T2.out)
  replace R10 := hid (R10.out.below T2.out)
  replace R11 := hid (R11.out.below T2.out)
  replace HB := hid (HB.out.trans (T2.out.mono HB.out.size))
  clear T2
  go_upto_if 158 with fail
  go_cut [4] from 157 to 165 (fun s wx => ∃ a : Option Addr, s = .slice a n4 n4 ∧ Hid (Row .i32 wx a n4 L.scope) ∧ Hid (Below V2.heap.size V2 wx))
  case first =>
    clear nt29 nt30
    cases a4 with
    | none =>
      obtain ⟨rfl, rfl⟩ := E4.out rfl
      go_wp2_with fail
      go_meet
      exact ⟨none, rfl, R4, hid (Below.refl _ _)⟩
    | some x =>
      obtain ⟨g, W', hg, mk, cp, HBk, HBl, HZ⟩ := mk_copy29 V2 (some x) n4 c4 L.scope (by omega) R4.out
      go_wp2_with fail
      go_meet
      exact ⟨some ⟨g, 0, none⟩, rfl, hid (row_blk HBk.out HN.out.l4), hid (by rw [← hg.out]; exact HBl.out)⟩
  case rest =>
  obtain ⟨b4, rfl, X4, T4⟩ := hcut
  obtain ⟨V4, rfl⟩ : ∃ x, x = wc := ⟨_, rfl⟩
  clear R4 E4
  have R4 := X4
  clear X4
  replace R1 := hid (R1.out.below T4.out)
  replace R2 := hid (R2.out.below T4.out)
  replace R3 := hid (R3.out.below T4.out)
  replace R5 := hid (R5.out.below T4.out)
  replace R6 := hid (R6.out.below T4.out)
  replace R7 := hid (R7.out.below T4.out)
  replace R8 := hid (R8.out.below T4.out)
  replace R9 := hid (R9.out.below T4.out)
  replace R10 := hid (R10.out.below T4.out)
  replace R11 := hid (R11.out.below T4.out)
  replace HB := hid (HB.out.trans (T4.out.mono HB.out.size))
  clear T4
  go_upto_if 167 with fail
  go_cut [5] from 166 to 174 (fun s wx => ∃ a : Option Addr, s = .slice a n5 n5 ∧ Hid (Row .i32 wx a n5 L.stream) ∧ Hid (Below V4.heap.size V4 wx))
  case first =>
    clear nt29 nt30
    cases a5 with
    | none =>
      obtain ⟨rfl, rfl⟩ := E5.out rfl
      go_wp2_with fail
      go_meet
      exact ⟨none, rfl, R5, hid (Below.refl _ _)⟩
    | some x =>
      obtain ⟨g, W', hg, mk, cp, HBk, HBl, HZ⟩ := mk_copy29 V4 (some x) n5 c5 L.stream (by omega) R5.out
      go_wp2_with fail
      go_meet
      exact ⟨some ⟨g, 0, none⟩, rfl, hid (row_blk HBk.out HN.out.l5), hid (by rw [← hg.out]; exact HBl.out)⟩
  case rest =>
  obtain ⟨b5, rfl, X5, T5⟩ := hcut
  obtain ⟨V5, rfl⟩ : ∃ x, x = wc := ⟨_, rfl⟩
  clear R5 E5
  have R5 := X5
  clear X5
  replace R1 := hid (R1.out.below T5.out)
  replace R2 := hid (R2.out.below T5.out)
  replace R3 := hid (R3.out.below T5.out)
  replace R4 := hid (R4.out.below T5.out)
  replace R6 := hid (R6.out.below T5.out)
  replace R7 := hid (R7.out.below T5.out)
  replace R8 := hid (R8.out.below T5.out)
  replace R9 := hid (R9.out.below T5.out)
  replace R10 := hid (R10.out.below T5.out)
  replace R11 := hid (R11.out.below T5.out)
  replace HB := hid (HB.out.trans (T5.out.mono HB.out.size))
  clear T5
  go_upto_if 176 with fail
  go_cut [6] from 175 to 183 (fun s wx => ∃ a : Option Addr, s = .slice a n6 n6 ∧ Hid (Row .i32 wx a n6 L.seq) ∧ Hid (Below V5.heap.size V5 wx))
  case first =>
    clear nt29 nt30
    cases a6 with
    | none =>
      obtain ⟨rfl, rfl⟩ := E6.out rfl
      go_wp2_with fail
      go_meet
      exact ⟨none, rfl, R6, hid (Below.refl _ _)⟩
    | some x =>
      obtain ⟨g, W', hg, mk, cp, HBk, HBl, HZ⟩ := mk_copy29 V5 (some x) n6 c6 L.seq (by omega) R6.out
      go_wp2_with fail
      go_meet
      exact ⟨some ⟨g, 0, none⟩, rfl, hid (row_blk HBk.out HN.out.l6), hid (by rw [← hg.out]; exact HBl.out)⟩
  case rest =>
  obtain ⟨b6, rfl, X6, T6⟩ := hcut
  obtain ⟨V6, rfl⟩ : ∃ x, x = wc := ⟨_, rfl⟩
  clear R6 E6
  have R6 := X6
  clear X6
  replace R1 := hid (R1.out.below T6.out)
  replace R2 := hid (R2.out.below T6.out)
  replace R3 := hid (R3.out.below T6.out)
  replace R4 := hid (R4.out.below T6.out)
  replace R5 := hid (R5.out.below T6.out)
  replace R7 := hid (R7.out.below T6.out)
  replace R8 := hid (R8.out.below T6.out)
  replace R9 := hid (R9.out.below T6.out)
  replace R10 := hid (R10.out.below T6.out)
  replace R11 := hid (R11.out.below T6.out)
  replace HB := hid (HB.out.trans (T6.out.mono HB.out.size))
  clear T6
  go_upto_if 185 with fail
  go_cut [7] from 184 to 192 (fun s wx => ∃ a : Option Addr, s = .slice a n7 n7 ∧ Hid (Row .i64 wx a n7 L.row) ∧ Hid (Below V6.heap.size V6 wx))
  case first =>
    clear nt29 nt30
    cases a7 with
    | none =>
      obtain ⟨rfl, rfl⟩ := E7.out rfl
      go_wp2_with fail
      go_meet
      exact ⟨none, rfl, R7, hid (Below.refl _ _)⟩
    | some x =>
      obtain ⟨g, W', hg, mk, cp, HBk, HBl, HZ⟩ := mk_copy30 V6 (some x) n7 c7 L.row (by omega) R7.out
      go_wp2_with fail
      go_meet
      exact ⟨some ⟨g, 0, none⟩, rfl, hid (row_blk HBk.out HN.out.l7), hid (by rw [← hg.out]; exact HBl.out)⟩
  case rest =>
  obtain ⟨b7, rfl, X7, T7⟩ := hcut
  obtain ⟨V7, rfl⟩ : ∃ x, x = wc := ⟨_, rfl⟩
  clear R7 E7
  have R7 := X7
  clear X7
  replace R1 := hid (R1.out.below T7.out)
  replace R2 := hid (R2.out.below T7.out)
  replace R3 := hid (R3.out.below T7.out)
  replace R4 := hid (R4.out.below T7.out)
  replace R5 := hid (R5.out.below T7.out)
  replace R6 := hid (R6.out.below T7.out)
  replace R8 := hid (R8.out.below T7.out)
  replace R9 := hid (R9.out.below T7.out)
  replace R10 := hid (R10.out.below T7.out)
  replace R11 := hid (R11.out.below T7.out)
  replace HB := hid (HB.out.trans (T7.out.mono HB.out.size))
  clear T7
  go_upto_if 194 with fail
  go_cut [8] from 193 to 201 (fun s wx => ∃ a : Option Addr, s = .slice a n8 n8 ∧ Hid (Row .i32 wx a n8 L.ss) ∧ Hid (Below V7.heap.size V7 wx))
  case first =>
    clear nt29 nt30
    cases a8 with
    | none =>
      obtain ⟨rfl, rfl⟩ := E8.out rfl
      go_wp2_with fail
      go_meet
      exact ⟨none, rfl, R8, hid (Below.refl _ _)⟩
    | some x =>
      obtain ⟨g, W', hg, mk, cp, HBk, HBl, HZ⟩ := mk_copy29 V7 (some x) n8 c8 L.ss (by omega) R8.out
      go_wp2_with fail
      go_meet
      exact ⟨some ⟨g, 0, none⟩, rfl, hid (row_blk HBk.out HN.out.l8), hid (by rw [← hg.out]; exact HBl.out)⟩
  case rest =>
  obtain ⟨b8, rfl, X8, T8⟩ := hcut
  obtain ⟨V8, rfl⟩ : ∃ x, x = wc := ⟨_, rfl⟩
  clear R8 E8
  have R8 := X8
  clear X8
  replace R1 := hid (R1.out.below T8.out)
  replace R2 := hid (R2.out.below T8.out)
  replace R3 := hid (R3.out.below T8.out)
  replace R4 := hid (R4.out.below T8.out)
  replace R5 := hid (R5.out.below T8.out)
  replace R6 := hid (R6.out.below T8.out)
  replace R7 := hid (R7.out.below T8.out)
  replace R9 := hid (R9.out.below T8.out)
  replace R10 := hid (R10.out.below T8.out)
  replace R11 := hid (R11.out.below T8.out)
  replace HB := hid (HB.out.trans (T8.out.mono HB.out.size))
  clear T8
  go_upto_if 203 with fail
  go_cut [9] from 202 to 210 (fun s wx => ∃ a : Option Addr, s = .slice a n9 n9 ∧ Hid (Row .i32 wx a n9 L.slot) ∧ Hid (Below V8.heap.size V8 wx))
  case first =>
    clear nt29 nt30
    cases a9 with
    | none =>
      obtain ⟨rfl, rfl⟩ := E9.out rfl
      go_wp2_with fail
      go_meet
      exact ⟨none, rfl, R9, hid (Below.refl _ _)⟩
    | some x =>
      obtain ⟨g, W', hg, mk, cp, HBk, HBl, HZ⟩ := mk_copy29 V8 (some x) n9 c9 L.slot (by omega) R9.out
      go_wp2_with fail
      go_meet
      exact ⟨some ⟨g, 0, none⟩, rfl, hid (row_blk HBk.out HN.out.l9), hid (by rw [← hg.out]; exact HBl.out)⟩
  case rest =>
  obtain ⟨b9, rfl, X9, T9⟩ := hcut
  obtain ⟨V9, rfl⟩ : ∃ x, x = wc := ⟨_, rfl⟩
  clear R9 E9
  have R9 := X9
  clear X9
  replace R1 := hid (R1.out.below T9.out)
  replace R2 := hid (R2.out.below T9.out)
  replace R3 := hid (R3.out.below T9.out)
  replace R4 := hid (R4.out.below T9.out)
  replace R5 := hid (R5.out.below T9.out)
  replace R6 := hid (R6.out.below T9.out)
  replace R7 := hid (R7.out.below T9.out)
  replace R8 := hid (R8.out.below T9.out)
  replace R10 := hid (R10.out.below T9.out)
  replace R11 := hid (R11.out.below T9.out)
  replace HB := hid (HB.out.trans (T9.out.mono HB.out.size))
  clear T9
  go_upto_if 212 with fail
  go_cut [10] from 211 to 219 (fun s wx => ∃ a : Option Addr, s = .slice a n10 n10 ∧ Hid (Row .i32 wx a n10 L.width) ∧ Hid (Below V9.heap.size V9 wx))
  case first =>
    clear nt29 nt30
    cases a10 with
    | none =>
      obtain ⟨rfl, rfl⟩ := E10.out rfl
      go_wp2_with fail
      go_meet
      exact ⟨none, rfl, R10, hid (Below.refl _ _)⟩
    | some x =>
      obtain ⟨g, W', hg, mk, cp, HBk, HBl, HZ⟩ := mk_copy29 V9 (some x) n10 c10 L.width (by omega) R10.out
      go_wp2_with fail
      go_meet
      exact ⟨some ⟨g, 0, none⟩, rfl, hid (row_blk HBk.out HN.out.l10), hid (by rw [← hg.out]; exact HBl.out)⟩
  case rest =>
  obtain ⟨b10, rfl, X10, T10⟩ := hcut
  obtain ⟨V10, rfl⟩ : ∃ x, x = wc := ⟨_, rfl⟩
  clear R10 E10
  have R10 := X10
  clear X10
  replace R1 := hid (R1.out.below T10.out)
  replace R2 := hid (R2.out.below T10.out)
  replace R3 := hid (R3.out.below T10.out)
  replace R4 := hid (R4.out.below T10.out)
  replace R5 := hid (R5.out.below T10.out)
  replace R6 := hid (R6.out.below T10.out)
  replace R7 := hid (R7.out.below T10.out)
  replace R8 := hid (R8.out.below T10.out)
  replace R9 := hid (R9.out.below T10.out)
  replace R11 := hid (R11.out.below T10.out)
  replace HB := hid (HB.out.trans (T10.out.mono HB.out.size))
  clear T10
  go_upto_if 221 with fail
  go_cut [11] from 220 to 228 (fun s wx => ∃ a : Option Addr, s = .slice a n11 n11 ∧ Hid (Row .i32 wx a n11 L.rows) ∧ Hid (Below V10.heap.size V10 wx))
  case first =>
    clear nt29 nt30
    cases a11 with
    | none =>
      obtain ⟨rfl, rfl⟩ := E11.out rfl
      go_wp2_with fail
      go_meet
      exact ⟨none, rfl, R11, hid (Below.refl _ _)⟩
    | some x =>
      obtain ⟨g, W', hg, mk, cp, HBk, HBl, HZ⟩ := mk_copy29 V10 (some x) n11 c11 L.rows (by omega) R11.out
      go_wp2_with fail
      go_meet
      exact ⟨some ⟨g, 0, none⟩, rfl, hid (row_blk HBk.out HN.out.l11), hid (by rw [← hg.out]; exact HBl.out)⟩
  case rest =>
  obtain ⟨b11, rfl, X11, T11⟩ := hcut
  obtain ⟨V11, rfl⟩ : ∃ x, x = wc := ⟨_, rfl⟩
  clear R11 E11
  have R11 := X11
  clear X11
  replace R1 := hid (R1.out.below T11.out)
  replace R2 := hid (R2.out.below T11.out)
  replace R3 := hid (R3.out.below T11.out)
  replace R4 := hid (R4.out.below T11.out)
  replace R5 := hid (R5.out.below T11.out)
  replace R6 := hid (R6.out.below T11.out)
  replace R7 := hid (R7.out.below T11.out)
  replace R8 := hid (R8.out.below T11.out)
  replace R9 := hid (R9.out.below T11.out)
  replace R10 := hid (R10.out.below T11.out)
  replace HB := hid (HB.out.trans (T11.out.mono HB.out.size))
  clear T11
  clear nt29 nt30
  obtain ⟨V, rfl⟩ : ∃ x, x = V11 := ⟨_, rfl⟩
  have mkF : ∀ W : World, (Instr.makeSlice 29 (.int .i64 0) (.int .i64 (n1 : Int))).run Try.prog W = .ok (.slice (some ⟨W.heap.size, 0, none⟩) 0 n1) (W.alloc (.cells (zrs .i32 n1).toArray 21)) := fun W => make29 0 n1 (Nat.zero_le _) (by omega) W
  go_wp2
  clear mkF
  go_loopw [34, 35] (fun q i wr => ∃ (k : Nat) (aQ : Option Addr) (cQ : Nat), k ≤ n1 ∧ q = .slice aQ (firstTo L k).length cQ ∧ i = .int .i64 k ∧ Hid (wr.ownsRow V.heap.size 21 1 (.slice aQ (firstTo L k).length cQ) (firstTo L k).length (ints .i32 (natsZ (firstTo L k)))) ∧ Hid (Below V.heap.size V wr)) (fun _ i _ => n1 - (intOf i).toNat)
  case atStart =>
    refine ⟨0, some ⟨V.heap.size, 0, none⟩, n1, Nat.zero_le _, rfl, rfl, hid ?_, hid ((Below.refl _ _).alloc (Nat.le_refl _) _)⟩
    exact World.ownsRow_made V _ n1 (Nat.le_refl _) (by simp only [maxLen]; omega) (by simp [zrs])
  case round =>
    obtain ⟨k, aQ, cQ, hk, rfl, rfl, hown, hbl⟩ := hrel
    by_cases hlt : k < n1
    · have hlt' : (k : Int) < (n1 : Int) := by omega
      as_aux_lemma =>
        obtain ⟨g1, o1, ea1, hg1, hc1⟩ := (R1.out.below hbl.out).2.2 (by omega)
        subst ea1
        obtain ⟨z, hz⟩ : ∃ z, Hid (L.msgs.getD k 0 = z) := ⟨_, rfl⟩
        obtain ⟨s, hs1⟩ : ∃ s, Hid (L.sends.getD k false = s) := ⟨_, rfl⟩
        have cz : wr.cell? ⟨g1, o1 + k * 2, none⟩ = some (.int .i32 z) := by rw [(hc1 k hlt).1, hz.out]
        have cs : wr.cell? ⟨g1, o1 + k * 2 + 1, none⟩ = some (.bool s) := by rw [(hc1 k hlt).2, hs1.out]
        clear hc1
        have hsz := hbl.out.size
        cases s
        case true =>
          go_wp2
          go_roundw
          case rel =>
            have hkeep : firstTo L (k + 1) = firstTo L k := firstTo_stay (by
              rintro ⟨h1, _⟩
              simp only [keep, hs1.out, Bool.not_true, Bool.false_and] at h1
              cases h1
              )
            exact ⟨k + 1, aQ, cQ, by omega, by rw [hkeep], by go_num, hid (by rw [hkeep]; exact hown.out.alloc _), hid (hbl.out.alloc hsz _)⟩
          case measure => simp [intOf]; omega
        case false =>
          have hF := HF.out k hlt
          rcases hF with hF | ⟨e1, e2, hF⟩
          · rw [hs1.out] at hF; cases hF
          obtain ⟨m, hm⟩ : ∃ m, Hid (L.msgN k = m) := ⟨_, rfl⟩
          rw [hm.out] at e1 e2 hF
          obtain rfl : z = (m : Int) := by rw [← hz.out]; exact e1
          clear e1
          have l2 : m < n2 := by have := HN.out.l2; omega
          have im : (m : Int) < (n2 : Int) := by omega
          obtain ⟨g2, o2, ea2, hg2, hc2⟩ := (R2.out.below hbl.out).2 (by omega)
          subst ea2
          obtain ⟨z2, hz2⟩ : ∃ z, Hid (L.sender.getD m 0 = z) := ⟨_, rfl⟩
          have AL : Hid (∀ (o : Obj) (b j : Nat), b < wr.heap.size → (wr.alloc o).cell? ⟨b, j, none⟩ = wr.cell? ⟨b, j, none⟩) := hid (fun o b j hb => World.cell?_of_block (Below.heap_alloc wr o b hb))
          have c2a : (wr.alloc (.cells #[.int .i32 (m : Int), .bool false] 38)).cell? ⟨g2, o2 + m, none⟩ = some (.int .i32 z2) := by rw [AL.out _ _ _ hg2, hc2 m l2, hz2.out]
          clear hc2
          by_cases h2 : z2 < 0
          · have hd2 : decide (z2 < 0) = true := decide_eq_true h2
            go_wp2
            go_roundw
            case rel =>
              have hkeep : firstTo L (k + 1) = firstTo L k := firstTo_stay (by
                rintro ⟨h1, _⟩
                simp only [keep, hm.out, hz2.out, decide_eq_false (show ¬ 0 ≤ z2 by omega), Bool.false_and, Bool.and_false] at h1
                cases h1
                )
              exact ⟨k + 1, aQ, cQ, by omega, by rw [hkeep], by go_num, hid (by rw [hkeep]; exact hown.out.alloc _), hid (hbl.out.alloc hsz _)⟩
            case measure => simp [intOf]; omega
          have hd2 : decide (z2 < 0) = false := decide_eq_false h2
          replace hF := hF.resolve_left (by rw [hz2.out]; exact h2)
          obtain ⟨l3, hF⟩ := hF
          have l3' : m < n3 := by have := HN.out.l3; omega
          have im3 : (m : Int) < (n3 : Int) := by omega
          obtain ⟨g3, o3, ea3, hg3, hc3⟩ := (R3.out.below hbl.out).2 (by omega)
          subst ea3
          obtain ⟨z3, hz3⟩ : ∃ z, Hid (L.seen.getD m 0 = z) := ⟨_, rfl⟩
          have c3a : (wr.alloc (.cells #[.int .i32 (m : Int), .bool false] 38)).cell? ⟨g3, o3 + m, none⟩ = some (.int .i32 z3) := by rw [AL.out _ _ _ hg3, hc3 m l3', hz3.out]
          clear hc3
          by_cases h3 : z3 = (p : Int) + 1
          · have hd3 : decide (z3 = (p : Int) + 1) = true := decide_eq_true h3
            go_wp2
            go_roundw
            case rel =>
              have hkeep : firstTo L (k + 1) = firstTo L k := firstTo_stay (by
                rintro ⟨h1, _⟩
                have h5 : L.seen.getD m 0 = (L.p : Int) + 1 := by rw [hz3.out, h3, hp.out]
                simp only [keep, hm.out, h5, decide_true, Bool.not_true, Bool.and_false] at h1
                cases h1
                )
              exact ⟨k + 1, aQ, cQ, by omega, by rw [hkeep], by go_num, hid (by rw [hkeep]; exact hown.out.alloc _), hid (hbl.out.alloc hsz _)⟩
            case measure => simp [intOf]; omega
          have hd3 : decide (z3 = (p : Int) + 1) = false := decide_eq_false h3
          have h3h := hid h3
          have hlen := firstTo_len L k
          have hkp : Hid (keep L k = true) := hid (by
            simp only [keep, hs1.out, hm.out, hz2.out, hz3.out, hp.out, Bool.and_eq_true, Bool.not_eq_true', decide_eq_true_eq, decide_eq_false_iff_not, true_and]
            exact ⟨by omega, h3h.out⟩)
          go_wp2_with fail
          refine (index_any aQ (firstTo L k).length cQ (m : Int) (natsZ (firstTo L k)) _ (own_row (hown.out.alloc _)) (by omega)).mono ?_
          rintro e w3 ⟨r, rfl, hr, rfl⟩
          replace hr := hid hr
          by_cases h4 : (0 : Int) ≤ r
          · have hd4 : decide ((0 : Int) ≤ r) = true := decide_eq_true h4
            go_wp2
            go_roundw
            case rel =>
              have hkeep : firstTo L (k + 1) = firstTo L k := firstTo_stay (by
                rintro ⟨_, h1⟩
                rw [hm.out] at h1
                exact h1 (mem_natsZ.1 (hr.out.1 h4))
                )
              exact ⟨k + 1, aQ, cQ, by omega, by rw [hkeep], by go_num, hid (by rw [hkeep]; exact hown.out.alloc _), hid (hbl.out.alloc hsz _)⟩
            case measure => simp [intOf]; omega
          have hd4 : decide ((0 : Int) ≤ r) = false := decide_eq_false h4
          have h4h := hid h4
          obtain ⟨w4, hw4⟩ : ∃ u, Hid (wr.alloc (.cells #[.int .i32 (m : Int), .bool false] 38) = u) := ⟨_, rfl⟩
          rw [hw4.out]
          have own4 : Hid ((w4.alloc (.cells #[.int .i32 (m : Int)] 21)).ownsRow V.heap.size 21 1 (.slice aQ (firstTo L k).length cQ) (firstTo L k).length (ints .i32 (natsZ (firstTo L k)))) := by rw [← hw4.out]; exact hid ((hown.out.alloc _).alloc _)
          have bl4 : Hid (Below V.heap.size V (w4.alloc (.cells #[.int .i32 (m : Int)] 21))) := by rw [← hw4.out]; exact hid ((hbl.out.alloc hsz _).alloc (by simp; omega) _)
          have hb4 : V.heap.size ≤ (w4.alloc (.cells #[.int .i32 (m : Int)] 21)).heap.size := bl4.out.size
          clear hw4 c2a c3a cz cs
          have cell3 := hid (one_new0 w4 (.int .i32 (m : Int)) 21)
          obtain ⟨i0, hi, hz0x, hz1x, hz2x⟩ := info_parts Try.info21
          have mx1 : (firstTo L k).length + 1 ≤ maxLen := by simp only [maxLen]; omega
          have mx2 : ((firstTo L k).length + 1) * 4 ≤ 140737488355328 := by omega
          have one3 : Hid (∀ u ∈ [Value.int .i32 (m : Int)], u.oneCell' = true) := hid (by intro u hu; simp only [List.mem_singleton] at hu; subst hu; rfl)
          go_wp2_with (at_builtin; refine wpList_append_own _ rfl (.tmp 264) (.tmp 266) 29 rfl V.heap.size 21 i0 (.int .i32 0) 1 4 Try.underlying29 hi hz0x hz1x hz2x rfl (by omega) (.slice aQ (firstTo L k).length cQ) _ _ rfl own4.out ⟨w4.heap.size, 0, none⟩ 1 1 [.int .i32 (m : Int)] rfl rfl cell3.out one3.out mx1 mx2 hb4 ?_; intro v5 w5 hown5 hgrow5 hiff5; obtain ⟨aX, cX, rfl⟩ := slice_of_own hown5; replace hown5 := hid hown5; replace hgrow5 := hid hgrow5; clear hiff5)
          go_roundw
          case rel =>
            have hkeep : firstTo L (k + 1) = firstTo L k ++ [m] := by
              rw [firstTo_more ⟨hkp.out, ?_⟩, hm.out]
              rw [hm.out]; intro h5; have h6 := hr.out.2 (mem_natsZ.2 h5); have h7 := h4h.out; omega
            have hl2 : (firstTo L k ++ [m]).length = (firstTo L k).length + 1 := by simp
            refine ⟨k + 1, aX, cX, by omega, by rw [hkeep, hl2], by go_num, hid ?_, hid (below_grow bl4.out hb4 hgrow5.out own4.out)⟩
            rw [hkeep, hl2, natsZ_append, ints_append]
            exact hown5.out
          case measure => simp [intOf]; omega
    · have ek : n1 = k := by omega
      subst ek
      as_aux_lemma =>
        obtain ⟨F, hFF⟩ : ∃ F, Hid (firstTo L n1 = F) := ⟨_, rfl⟩
        rw [hFF.out] at hown
        rw [hFF.out]
        have hlF : F.length ≤ n1 := by rw [← hFF.out]; exact firstTo_len L n1
        have iF : (F.length : Int) ≤ 4096 := by omega
        have hLi : Hid (∀ b ∈ F, Listed L b) := by rw [← hFF.out]; exact hid (listed_first HF.out)
        obtain ⟨V2a, rfl⟩ : ∃ x, x = wr := ⟨_, rfl⟩
        have mkE := make32 F.length (by omega)
        go_wp2
        clear mkE
        go_loopw [39] (fun i wr => ∃ (k : Nat) (H : List Bool), k ≤ F.length ∧ i = .int .i64 k ∧ Hid (Blk wr V2a.heap.size (bls H) 4) ∧ Hid (EarUp L F k H) ∧ Hid (Below V2a.heap.size V2a wr)) (fun i _ => F.length - (intOf i).toNat)
        case atStart => exact ⟨0, List.replicate F.length false, Nat.zero_le _, rfl, hid (by rw [← bls_false]; exact Blk.new _ _ _), hid (EarUp.start L F), hid ((Below.refl _ _).alloc (Nat.le_refl _) _)⟩
        case round =>
          obtain ⟨k, H, hk2, rfl, hbY, hea, hb2⟩ := hrel
          by_cases hlt2 : k < F.length
          · have hlt2' : (k : Int) < (F.length : Int) := by omega
            as_aux_lemma =>
              obtain ⟨gQ, rfl, hgQ1, hgQ2, hgQ3⟩ := own_some hown.out (by omega)
              obtain ⟨b, hb⟩ : ∃ b, Hid (F.getD k 0 = b) := ⟨_, rfl⟩
              have hbF : b ∈ F := by rw [← hb.out]; simp [List.getD, hlt2]
              have hfu := hid (hLi.out b hbF).full
              have hQ : Hid (∀ (wx : World), Below V2a.heap.size V2a wx → ∀ x, x < F.length → wx.cell? ⟨gQ, x, none⟩ = some (.int .i32 ((F.getD x 0 : Nat) : Int))) := hid (fun wx hx x hxl => by
                rw [hx.cell (p := ⟨gQ, x, none⟩) hgQ2, (own_cell hown.out rfl hxl).1]; simp [natsZ, ints, List.getD, hxl])
              have cb : wr.cell? ⟨gQ, k, none⟩ = some (.int .i32 (b : Int)) := by rw [hQ.out wr hb2.out k hlt2, hb.out]
              have hV : Hid (∀ (wx : World), Below V2a.heap.size V2a wx → Below V.heap.size V wx) := hid (fun wx hx => hbl.out.trans (hx.mono hbl.out.size))
              have bd1 : b < n4 := by have := hfu.out.l4; have := HN.out.l4; omega
              have bd2 : b < n7 := by have := hfu.out.l7; have := HN.out.l7; omega
              have bd3 : 0 < n5 := by have := hfu.out.l5; have := HN.out.l5; omega
              have bd4 : 0 < n6 := by have := hfu.out.l6; have := HN.out.l6; omega
              have bd5 : 0 < n8 := by have := hfu.out.lst; have := HN.out.l8; omega
              obtain ⟨g4, o4, ea4, hg4, hc4⟩ := R4.out.2 (by omega)
              subst ea4
              have hk4 : Hid (∀ (wx : World), Below V2a.heap.size V2a wx → ∀ x, x < n4 → wx.cell? ⟨g4, o4 + x, none⟩ = some (.int .i32 (L.scope.getD x 0))) := hid (fun wx hx x hxl => by rw [(hV.out wx hx).cell (p := ⟨g4, o4 + x, none⟩) hg4]; exact hc4 x hxl)
              clear hc4
              obtain ⟨g5, o5, ea5, hg5, hc5⟩ := R5.out.2 (by omega)
              subst ea5
              have hk5 : Hid (∀ (wx : World), Below V2a.heap.size V2a wx → ∀ x, x < n5 → wx.cell? ⟨g5, o5 + x, none⟩ = some (.int .i32 (L.stream.getD x 0))) := hid (fun wx hx x hxl => by rw [(hV.out wx hx).cell (p := ⟨g5, o5 + x, none⟩) hg5]; exact hc5 x hxl)
              clear hc5
              obtain ⟨g6, o6, ea6, hg6, hc6⟩ := R6.out.2 (by omega)
              subst ea6
              have hk6 : Hid (∀ (wx : World), Below V2a.heap.size V2a wx → ∀ x, x < n6 → wx.cell? ⟨g6, o6 + x, none⟩ = some (.int .i32 (L.seq.getD x 0))) := hid (fun wx hx x hxl => by rw [(hV.out wx hx).cell (p := ⟨g6, o6 + x, none⟩) hg6]; exact hc6 x hxl)
              clear hc6
              obtain ⟨g7, o7, ea7, hg7, hc7⟩ := R7.out.2 (by omega)
              subst ea7
              have hk7 : Hid (∀ (wx : World), Below V2a.heap.size V2a wx → ∀ x, x < n7 → wx.cell? ⟨g7, o7 + x, none⟩ = some (.int .i64 (L.row.getD x 0))) := hid (fun wx hx x hxl => by rw [(hV.out wx hx).cell (p := ⟨g7, o7 + x, none⟩) hg7]; exact hc7 x hxl)
              clear hc7
              obtain ⟨g8, o8, ea8, hg8, hc8⟩ := R8.out.2 (by omega)
              subst ea8
              have hk8 : Hid (∀ (wx : World), Below V2a.heap.size V2a wx → ∀ x, x < n8 → wx.cell? ⟨g8, o8 + x, none⟩ = some (.int .i32 (L.ss.getD x 0))) := hid (fun wx hx x hxl => by rw [(hV.out wx hx).cell (p := ⟨g8, o8 + x, none⟩) hg8]; exact hc8 x hxl)
              clear hc8
              obtain ⟨rr, hrr⟩ : ∃ s, Hid (L.rowN b = s) := ⟨_, rfl⟩
              obtain ⟨sc, hsc⟩ : ∃ s, Hid (L.scN b = s) := ⟨_, rfl⟩
              have c7 : wr.cell? ⟨g7, o7 + b, none⟩ = some (.int .i64 (rr : Int)) := by rw [hk7.out wr hb2.out b bd2, hfu.out.erow, hrr.out]
              have ib7 : (b : Int) < (n7 : Int) := by omega
              have ib4 : (b : Int) < (n4 : Int) := by omega
              obtain ⟨wq, rfl⟩ : ∃ x, x = wr := ⟨_, rfl⟩
              go_wp2
              clear cb c7
              go_loopw [42] (fun i wr => ∃ j : Nat, k + 1 ≤ j ∧ j ≤ F.length ∧ i = .int .i64 j ∧ Hid (Blk wr V2a.heap.size (bls H) 4) ∧ Hid (Below V2a.heap.size V2a wr) ∧ Hid (∀ x, k + 1 ≤ x → x < j → hit L b (F.getD x 0) = false)) (fun i _ => F.length - (intOf i).toNat)
              case atStart => exact ⟨k + 1, Nat.le_refl _, by omega, by go_num, hbY, hb2, hid (fun x h1 h2 => absurd h1 (by omega))⟩
              case round =>
                clear hbY hb2
                obtain ⟨j, hj1, hj2, rfl, hbY, hb2, hno⟩ := hrel
                by_cases hlt3 : j < F.length
                · have hlt3' : (j : Int) < (F.length : Int) := by omega
                  obtain ⟨d, hd⟩ : ∃ b, Hid (F.getD j 0 = b) := ⟨_, rfl⟩
                  have hdF : d ∈ F := by rw [← hd.out]; simp [List.getD, hlt3]
                  have hfd := hid (hLi.out d hdF).full
                  obtain ⟨s, hs5⟩ : ∃ s, Hid (L.stN d = s) := ⟨_, rfl⟩
                  have l5 : d < n5 := by have := hfd.out.l5; have := HN.out.l5; omega
                  have l6 : d < n6 := by have := hfd.out.l6; have := HN.out.l6; omega
                  have l8 : s < n8 := by rw [← HN.out.l8, ← hs5.out]; exact hfd.out.lst
                  have id5 : (d : Int) < (n5 : Int) := by omega
                  have id6 : (d : Int) < (n6 : Int) := by omega
                  have is8 : (s : Int) < (n8 : Int) := by omega
                  have cd : wr.cell? ⟨gQ, j, none⟩ = some (.int .i32 (d : Int)) := by rw [hQ.out wr hb2.out j hlt3, hd.out]
                  have c5d : wr.cell? ⟨g5, o5 + d, none⟩ = some (.int .i32 (s : Int)) := by rw [hk5.out wr hb2.out d l5, hfd.out.est, hs5.out]
                  have c4b : wr.cell? ⟨g4, o4 + b, none⟩ = some (.int .i32 (sc : Int)) := by rw [hk4.out wr hb2.out b bd1, hfu.out.esc, hsc.out]
                  obtain ⟨z1, hz1⟩ : ∃ z, Hid (L.ss.getD s 0 = z) := ⟨_, rfl⟩
                  have c8s : wr.cell? ⟨g8, o8 + s, none⟩ = some (.int .i32 z1) := by rw [hk8.out wr hb2.out s l8, hz1.out]
                  by_cases e1 : z1 = (sc : Int)
                  · subst e1
                    have hsl := hfd.out.slot sc (by rw [← hsc.out]; exact hfu.out.lsc) (by rw [hs5.out, hz1.out])
                    rw [hs5.out] at hsl
                    obtain ⟨sl1, sl2, sl3⟩ := hsl
                    obtain ⟨sl, hsl⟩ : ∃ s2, Hid (L.slN s = s2) := ⟨_, rfl⟩
                    rw [hsl.out] at sl2 sl3
                    have hrw : rr + sl < n11 := by have h1 := hfu.out.lrow; have h2 := hfu.out.ewd; rw [hsc.out] at h2; rw [hrr.out] at h1; have := HN.out.l11; omega
                    have l9 : s < n9 := by have := HN.out.l9; omega
                    have h9p : 0 < n9 := by omega
                    have h11p : 0 < n11 := by omega
                    obtain ⟨g9, o9, ea9, hg9, hc9⟩ := R9.out.2 h9p
                    subst ea9
                    obtain ⟨g11, o11, ea11, hg11, hc11⟩ := R11.out.2 h11p
                    subst ea11
                    have c9s : wr.cell? ⟨g9, o9 + s, none⟩ = some (.int .i32 (sl : Int)) := by rw [(hV.out wr hb2.out).cell (p := ⟨g9, o9 + s, none⟩) hg9, hc9 s l9, sl2]
                    obtain ⟨z3, hz3⟩ : ∃ z, Hid (L.rows.getD (rr + sl) 0 = z) := ⟨_, rfl⟩
                    have c11s : wr.cell? ⟨g11, o11 + (rr + sl), none⟩ = some (.int .i32 z3) := by rw [(hV.out wr hb2.out).cell (p := ⟨g11, o11 + (rr + sl), none⟩) hg11, hc11 _ hrw, hz3.out]
                    have en : ((rr : Int) + (sl : Int)).toNat = rr + sl := by omega
                    have c11t : wr.cell? ⟨g11, o11 + ((rr : Int) + (sl : Int)).toNat, none⟩ = some (.int .i32 z3) := by rw [en]; exact c11s
                    clear en
                    obtain ⟨zq, hzq⟩ : ∃ z, Hid (L.seq.getD d 0 = z) := ⟨_, rfl⟩
                    have c6d : wr.cell? ⟨g6, o6 + d, none⟩ = some (.int .i32 zq) := by rw [hk6.out wr hb2.out d l6, hzq.out]
                    have is9 : (s : Int) < (n9 : Int) := by omega
                    have irs : (rr : Int) + (sl : Int) < (n11 : Int) := by omega
                    have hH : Hid (hit L b d = true ↔ zq ≤ z3) := hid (by
                      simp only [hit, decide_eq_true_eq]; rw [hs5.out, hz1.out, hfu.out.esc, hsc.out, hzq.out, hrr.out, hsl.out, hz3.out]
                      exact ⟨fun h => h.2, fun h => ⟨rfl, h⟩⟩)
                    clear hc9 hc11 sl2 sl3
                    have cy : wr.cell? ⟨V2a.heap.size, k, none⟩ = some (.bool (H.getD k false)) := by rw [hbY.out.cell, bls_get _ _ (by rw [hea.out.1]; exact hlt2)]
                    have fy := hbY.out.frozen k
                    go_wp2
                    go_quiet (fail)
                    by_cases e2 : zq ≤ z3
                    · have hd2 : decide (zq ≤ z3) = true := decide_eq_true e2
                      go_wp2
                      go_roundw
                      case rel =>
                        have h9 := (hbY.out.drewN nq).set k (.bool true)
                        rw [bls_set] at h9
                        refine ⟨k + 1, H.set k true, by omega, by go_num, hid h9, hid (hea.out.set hlt2 ?_), hid ((below_drewN hb2.out _).setCell (Nat.le_refl _) _)⟩
                        rw [hb.out]; exact any_of_hit hj1 hlt3 (by rw [hd.out]; exact hH.out.2 e2)
                      case measure => simp [intOf]; omega
                    · have hd2 : decide (zq ≤ z3) = false := decide_eq_false e2
                      go_wp2
                      go_roundw
                      case rel =>
                        refine ⟨j + 1, by omega, by omega, by go_num, hid (hbY.out.drewN _), hid (below_drewN hb2.out _), hid (fun x h1 h2 => ?_)⟩
                        rcases Nat.lt_or_ge x j with h | h
                        · exact hno.out x h1 h
                        · obtain rfl : x = j := by omega
                          rw [hd.out]
                          cases e9 : hit L b d with
                          | false => rfl
                          | true => have := hH.out.1 e9; omega
                      case measure => simp [intOf]; omega
                  · have hd1 : decide (z1 = (sc : Int)) = false := decide_eq_false e1
                    have e1h := hid e1
                    go_wp2
                    go_quiet (fail)
                    go_wp2
                    go_roundw
                    case rel =>
                      refine ⟨j + 1, by omega, by omega, by go_num, hid (hbY.out.drewN _), hid (below_drewN hb2.out _), hid (fun x h1 h2 => ?_)⟩
                      rcases Nat.lt_or_ge x j with h | h
                      · exact hno.out x h1 h
                      · obtain rfl : x = j := by omega
                        rw [hd.out]
                        simp only [hit, decide_eq_false_iff_not]
                        rw [hs5.out, hz1.out, hfu.out.esc, hsc.out]
                        exact fun h => e1h.out h.1
                    case measure => simp [intOf]; omega
                · have ek : F.length = j := by omega
                  subst ek
                  go_wp2
                  go_roundw
                  case rel =>
                    refine ⟨k + 1, H, by omega, by go_num, hbY, hid (hea.out.stay hlt2 ?_), hb2⟩
                    rw [hb.out]; exact none_of_hit hno.out
                  case measure => simp [intOf]; omega
          · have ek : F.length = k := by omega
            subst ek
            as_aux_lemma =>
              have hH := hea.out.done
              subst hH
              clear hea
              obtain ⟨V3, rfl⟩ : ∃ x, x = wr := ⟨_, rfl⟩
              have mkA := make29 n1 n1 (Nat.le_refl _) (by omega)
              have mkB := make32 n1 (by omega)
              go_wp2
              clear mkA mkB
              go_loopw [47] (fun i wr => ∃ (k : Nat) (A : List Int) (H : List Bool), k ≤ n1 ∧ i = .int .i64 k ∧ Hid (Blk wr V3.heap.size (ints .i32 A) 21) ∧ Hid (Blk wr (V3.heap.size + 1) (bls H) 4) ∧ Hid (CpIs L n1 k A H) ∧ Hid (Below V3.heap.size V3 wr)) (fun i _ => n1 - (intOf i).toNat)
              case atStart =>
                refine ⟨0, List.replicate n1 0, List.replicate n1 false, Nat.zero_le _, rfl, hid ?_, hid ?_, hid (CpIs.start L n1), hid (((Below.refl _ _).alloc (Nat.le_refl _) _).alloc (by simp) _)⟩
                · rw [← zrs_ints]; exact (Blk.new _ _ _).alloc _
                · rw [← bls_false]; exact blk_new2 _ _ _ _
              case round =>
                obtain ⟨k, A, H, hk4, rfl, hbA, hbB, hcp, hb4⟩ := hrel
                by_cases hlt4 : k < n1
                · have hlt4' : (k : Int) < (n1 : Int) := by omega
                  as_aux_lemma =>
                    have hV4 : Hid (Below V.heap.size V wr) := hid ((hbl.out.trans (hb2.out.mono hbl.out.size)).trans (hb4.out.mono (by have := hbl.out.size; have := hb2.out.size; omega)))
                    obtain ⟨g1, o1, ea1, hg1, hc1⟩ := R1.out.2.2 (by omega)
                    subst ea1
                    have hgn : g1 ≠ V3.heap.size := by have := hbl.out.size; have := hb2.out.size; omega
                    obtain ⟨z, hz⟩ : ∃ z, Hid (L.msgs.getD k 0 = z) := ⟨_, rfl⟩
                    obtain ⟨s, hs1⟩ : ∃ s, Hid (L.sends.getD k false = s) := ⟨_, rfl⟩
                    have cz : wr.cell? ⟨g1, o1 + k * 2, none⟩ = some (.int .i32 z) := by rw [hV4.out.cell (p := ⟨g1, o1 + k * 2, none⟩) hg1, (hc1 k hlt4).1, hz.out]
                    have cs0 : wr.cell? ⟨g1, o1 + k * 2 + 1, none⟩ = some (.bool s) := by rw [hV4.out.cell (p := ⟨g1, o1 + k * 2 + 1, none⟩) hg1, (hc1 k hlt4).2, hs1.out]
                    have cs : (wr.setCell ⟨V3.heap.size, k, none⟩ (.int .i32 z)).cell? ⟨g1, o1 + k * 2 + 1, none⟩ = some (.bool s) := by rw [World.cell?_of_block (w := wr) (Below.heap_setCell _ _ _ _ hgn)]; exact cs0
                    have cA := hbA.out.int (show k < A.length by rw [hcp.out.1]; exact hlt4)
                    have fA := hbA.out.frozen k
                    have cB : (wr.setCell ⟨V3.heap.size, k, none⟩ (.int .i32 z)).cell? ⟨V3.heap.size + 1, k, none⟩ = some (.bool (H.getD k false)) := by rw [(hbB.out.other (by omega) _ _).cell, bls_get _ _ (by rw [hcp.out.2.1]; exact hlt4)]
                    have fB := (hbB.out.other (g' := V3.heap.size) (by omega) k (.int .i32 z)).frozen k
                    clear hc1 cs0
                    go_wp2
                    go_roundw
                    case rel =>
                      have h9 := hcp.out.next hlt4
                      rw [hz.out, hs1.out] at h9
                      have h8 := (hbA.out.set k (.int .i32 z)).other (g' := V3.heap.size + 1) (by omega) k (.bool s)
                      rw [ints_set] at h8
                      have h7 := (hbB.out.other (g' := V3.heap.size) (by omega) k (.int .i32 z)).set k (.bool s)
                      rw [bls_set] at h7
                      exact ⟨k + 1, A.set k z, H.set k s, by omega, by go_num, hid h8, hid h7, hid h9, hid ((hb4.out.setCell (Nat.le_refl _) _).setCell (by show V3.heap.size ≤ V3.heap.size + 1; omega) _)⟩
                    case measure => simp [intOf]; omega
                · have ek : n1 = k := by omega
                  subst ek
                  as_aux_lemma =>
                    obtain ⟨rfl, rfl⟩ := hcp.out.done HN.out.l1 HN.out.l1'
                    clear hcp
                    obtain ⟨V5, rfl⟩ : ∃ x, x = wr := ⟨_, rfl⟩
                    have s1 := hbl.out.size; have s2 := hb2.out.size; have s3 := hb4.out.size; have s4 := hbB.out.lt
                    have t1 : Hid (Below V.heap.size V V3) := hid (hbl.out.trans (hb2.out.mono s1))
                    have t2 : Hid (Below V.heap.size V V5) := hid (t1.out.trans (hb4.out.mono (by omega)))
                    obtain ⟨gS, W5, hgS, mk5, cp5, BkS, BlS, ZS⟩ := mk_copy29 V5 a3 n3 c3 L.seen (by omega) (R3.out.below t2.out)
                    have mkM := make29 n8 n8 (Nat.le_refl _) (by omega)
                    go_wp2_with fail
                    clear mk5 cp5 mkM
                    have BlS2 : Hid (Below V5.heap.size V5 W5) := by rw [← hgS.out]; exact BlS
                    obtain ⟨gM, hgM⟩ : ∃ g, Hid (W5.heap.size = g) := ⟨_, rfl⟩
                    obtain ⟨W6, hW6⟩ : ∃ u, Hid (W5.alloc (.cells (zrs .i32 n8).toArray 21) = u) := ⟨_, rfl⟩
                    have bM : Hid (Blk W6 gM (ints .i32 (List.replicate n8 0)) 21) := by rw [← hW6.out, ← hgM.out, ← zrs_ints]; exact hid (Blk.new _ _ _)
                    have bS : Hid (Blk W6 gS (ints .i32 L.seen) 21) := by rw [← hW6.out]; exact hid (BkS.out.alloc _)
                    have u5 : Hid (Below V5.heap.size V5 W6) := by rw [← hW6.out]; exact hid (BlS2.out.alloc BlS2.out.size _)
                    have u0 : Hid (Below V.heap.size V W6) := hid (t2.out.trans (u5.out.mono t2.out.size))
                    have zM : gM = gS + 1 := by rw [← hgM.out]; exact ZS.out
                    have zS : gS = V5.heap.size := hgS.out
                    have bA : Hid (Blk W6 V3.heap.size (ints .i32 L.msgs) 21) := hid (hbA.out.below u5.out (by omega))
                    have bB : Hid (Blk W6 (V3.heap.size + 1) (bls L.sends) 4) := hid (hbB.out.below u5.out s4)
                    rw [hW6.out, hgM.out]
                    have ZM := zmark_any L hL V.heap.size V3.heap.size (V3.heap.size + 1) gS gM n1 n2 n3 n2 b2 b4 b5 b6 b7 b8 b9 b10 b11 n4 n5 n6 n7 n8 n9 n10 n11 n4 n5 n6 n7 n8 n9 n10 W6 HF.out HN.out (by omega) (by omega) bA.out bB.out (R2.out.below u0.out) bS.out bM.out (rowb_of R4.out u0.out) (rowb_of R5.out u0.out) (rowb_of R6.out u0.out) (rowb_of R7.out u0.out) (rowb_of R8.out u0.out) (rowb_of R9.out u0.out) (rowb_of R10.out u0.out) (rowb_of R11.out u0.out)
                    rw [hp.out, hFF.out] at ZM
                    refine ZM.mono ?_
                    clear ZM
                    rintro e w7 ⟨vF, vE, aS, cS, Z, rfl, hkeep, hoF, hoE, hbS, hseen, hbM⟩
                    obtain ⟨aG, cG, rfl⟩ := slice_of_own hoF
                    obtain ⟨aH, cH, rfl⟩ := slice_of_own hoE
                    replace hkeep := hid hkeep
                    replace hoF := hid hoF
                    replace hoE := hid hoE
                    replace hbS := hid hbS
                    replace hseen := hid hseen
                    replace hbM := hid hbM
                    have x5 : Hid (Below V5.heap.size V5 w7) := hid (u5.out.trans ((hkeep.out.to_below (B := V5.heap.size) u5.out.size (fun k hk => by omega))))
                    clear zM zS
                    have x3 : Hid (Below V3.heap.size V3 w7) := hid (hb4.out.trans (x5.out.mono (by omega)))
                    have x2 : Hid (Below V2a.heap.size V2a w7) := hid (hb2.out.trans (x3.out.mono s2))
                    have x0 : Hid (Below V.heap.size V w7) := hid (hbl.out.trans (x2.out.mono s1))
                    have hY7 : Hid (Blk w7 V2a.heap.size (bls (earlyOf L F)) 4) := hid (hbY.out.below x3.out hbY.out.lt)
                    go_wp2
                    go_loopw [53] (fun i wr => ∃ k : Nat, k ≤ F.length ∧ i = .int .i64 k ∧ Hid (∃ d, wr = w7.drewN d)) (fun i _ => F.length - (intOf i).toNat)
                    case atStart => exact ⟨0, Nat.zero_le _, rfl, hid ⟨0, rfl⟩⟩
                    case round =>
                      obtain ⟨k, hk5, rfl, hdr⟩ := hrel
                      by_cases hlt5 : k < F.length
                      · have hlt5' : (k : Int) < (F.length : Int) := by omega
                        as_aux_lemma =>
                          obtain ⟨gQ, rfl, hgQ1, hgQ2, hgQ3⟩ := own_some hown.out (by omega)
                          obtain ⟨gG, rfl, hgG1, hgG2, hgG3⟩ := own_some hoF.out (by omega)
                          obtain ⟨gH, rfl, hgH1, hgH2, hgH3⟩ := own_some hoE.out (by omega)
                          obtain ⟨b, hb⟩ : ∃ b, Hid (F.getD k 0 = b) := ⟨_, rfl⟩
                          obtain ⟨e, he⟩ : ∃ b, Hid ((earlyOf L F).getD k false = b) := ⟨_, rfl⟩
                          have hsame : Hid (∀ a : Addr, wr.cell? a = w7.cell? a) := hid (fun a => by obtain ⟨d, rfl⟩ := hdr.out; rfl)
                          have cQ1 : wr.cell? ⟨gQ, k, none⟩ = some (.int .i32 (b : Int)) := by
                            rw [hsame.out, x2.out.cell (p := ⟨gQ, k, none⟩) hgQ2, (own_cell hown.out rfl hlt5).1, ← hb.out]; simp [natsZ, ints, List.getD, hlt5]
                          have cG1 : wr.cell? ⟨gG, k, none⟩ = some (.int .i32 (b : Int)) := by
                            rw [hsame.out, (own_cell hoF.out rfl hlt5).1, ← hb.out]; simp [natsZ, ints, List.getD, hlt5]
                          have cH1 : wr.cell? ⟨gH, k, none⟩ = some (.bool e) := by rw [hsame.out, (own_cell hoE.out rfl hlt5).1, bls_get _ _ (by rw [earlyOf_len]; exact hlt5), he.out]
                          have cY1 : wr.cell? ⟨V2a.heap.size, k, none⟩ = some (.bool e) := by rw [hsame.out, hY7.out.cell, bls_get _ _ (by rw [earlyOf_len]; exact hlt5), he.out]
                          clear he
                          go_wp2
                          go_quiet (fail)
                          cases e
                          all_goals
                            go_wp2
                            go_roundw
                            case rel => exact ⟨k + 1, by omega, by go_num, hid (by obtain ⟨d, rfl⟩ := hdr.out; exact ⟨_, World.drewN_drewN _ _ _⟩)⟩
                            case measure => simp [intOf]; omega
                      · have ek : F.length = k := by omega
                        subst ek
                        as_aux_lemma =>
                          obtain ⟨W8, rfl⟩ : ∃ x, x = wr := ⟨_, rfl⟩
                          obtain ⟨d, hW8r⟩ := hdr.out
                          have hW8 : Hid (w7.drewN d = W8) := hid hW8r.symm
                          clear hW8r hdr
                          have y0 : Hid (Below V.heap.size V W8) := by rw [← hW8.out]; exact hid (below_drewN x0.out _)
                          have y2 : Hid (Below V2a.heap.size V2a W8) := by rw [← hW8.out]; exact hid (below_drewN x2.out _)
                          have yS : Hid (Blk W8 gS (ints .i32 Z) 21) := by rw [← hW8.out]; exact hid (hbS.out.drewN _)
                          have yM : Hid (Blk W8 gM (ints .i32 (List.replicate n8 0)) 21) := by rw [← hW8.out]; exact hid (hbM.out.drewN _)
                          clear hoF hoE hbS hbM x5 x3 x2 x0 hY7 hkeep bA bB bS bM u5 u0 hbA hbB hb4 BkS BlS BlS2 hW6 hW8
                          go_wp2
                          go_loopw [54] (fun i wr => ∃ k : Nat, k ≤ n8 ∧ i = .int .i64 k ∧ wr = W8) (fun i _ => n8 - (intOf i).toNat)
                          case atStart => exact ⟨0, Nat.zero_le _, rfl, rfl⟩
                          case round =>
                            obtain ⟨k, hk6, rfl, rfl⟩ := hrel
                            by_cases hlt6 : k < n8
                            · have hlt6' : (k : Int) < (n8 : Int) := by omega
                              as_aux_lemma =>
                                have cM1 : wr.cell? ⟨gM, k, none⟩ = some (.int .i32 0) := by rw [yM.out.cell]; simp [ints, hlt6]
                                go_wp2
                                go_roundw
                                case rel => exact ⟨k + 1, by omega, by go_num, trivial⟩
                                case measure => simp [intOf]; omega
                            · have ek : n8 = k := by omega
                              subst ek
                              as_aux_lemma =>
                                obtain ⟨W8, rfl⟩ : ∃ x, x = wr := ⟨_, rfl⟩
                                have mkI := make32 n3 (by omega)
                                go_wp2
                                clear mkI
                                go_loopw [56] (fun i wr => ∃ (k : Nat) (H : List Bool), k ≤ F.length ∧ i = .int .i64 k ∧ Hid (Blk wr W8.heap.size (bls H) 4) ∧ Hid (InIs F n3 k H) ∧ Hid (Below W8.heap.size W8 wr)) (fun i _ => F.length - (intOf i).toNat)
                                case atStart => exact ⟨0, List.replicate n3 false, Nat.zero_le _, rfl, hid (by rw [← bls_false]; exact Blk.new _ _ _), hid (InIs.start F n3), hid ((Below.refl _ _).alloc (Nat.le_refl _) _)⟩
                                case round =>
                                  obtain ⟨k, H, hk7, rfl, hbI, hin, hb7⟩ := hrel
                                  by_cases hlt7 : k < F.length
                                  · have hlt7' : (k : Int) < (F.length : Int) := by omega
                                    as_aux_lemma =>
                                      obtain ⟨gQ, rfl, hgQ1, hgQ2, hgQ3⟩ := own_some hown.out (by omega)
                                      obtain ⟨b, hb⟩ : ∃ b, Hid (F.getD k 0 = b) := ⟨_, rfl⟩
                                      have hbF : b ∈ F := by rw [← hb.out]; simp [List.getD, hlt7]
                                      have lb3 : b < n3 := by rw [← HN.out.l3]; exact (hLi.out b hbF).l3
                                      have ib3 : (b : Int) < (n3 : Int) := by omega
                                      have z2 : Hid (Below V2a.heap.size V2a wr) := hid (y2.out.trans (hb7.out.mono y2.out.size))
                                      have cQ1 : wr.cell? ⟨gQ, k, none⟩ = some (.int .i32 (b : Int)) := by
                                        rw [z2.out.cell (p := ⟨gQ, k, none⟩) hgQ2, (own_cell hown.out rfl hlt7).1, ← hb.out]; simp [natsZ, ints, List.getD, hlt7]
                                      have cI1 : wr.cell? ⟨W8.heap.size, b, none⟩ = some (.bool (H.getD b false)) := by rw [hbI.out.cell, bls_get _ _ (by rw [hin.out.1]; exact lb3)]
                                      have fI1 := hbI.out.frozen b
                                      go_wp2
                                      go_roundw
                                      case rel =>
                                        have h9 := hbI.out.set b (.bool true)
                                        rw [bls_set] at h9
                                        have h8 := hin.out.next hlt7 (by rw [hb.out]; exact lb3)
                                        rw [hb.out] at h8
                                        exact ⟨k + 1, H.set b true, by omega, by go_num, hid h9, hid h8, hid (hb7.out.setCell (Nat.le_refl _) _)⟩
                                      case measure => simp [intOf]; omega
                                  · have ek : F.length = k := by omega
                                    subst ek
                                    as_aux_lemma =>
                                      obtain ⟨W9, rfl⟩ : ∃ x, x = wr := ⟨_, rfl⟩
                                      have v0 : Hid (Below V.heap.size V W9) := hid (y0.out.trans (hb7.out.mono y0.out.size))
                                      have vS : Hid (Blk W9 gS (ints .i32 Z) 21) := hid (yS.out.below hb7.out yS.out.lt)
                                      go_wp2
                                      go_loopw [57] (fun i wr => ∃ k : Nat, k ≤ n3 ∧ i = .int .i64 k ∧ wr = W9) (fun i _ => n3 - (intOf i).toNat)
                                      case atStart => exact ⟨0, Nat.zero_le _, rfl, rfl⟩
                                      case round =>
                                        obtain ⟨k, hk8, rfl, rfl⟩ := hrel
                                        by_cases hlt8 : k < n3
                                        · have hlt8' : (k : Int) < (n3 : Int) := by omega
                                          as_aux_lemma =>
                                            obtain ⟨g3, o3, ea3, hg3, hc3⟩ := (R3.out.below v0.out).2 (by omega)
                                            subst ea3
                                            obtain ⟨z, hz⟩ : ∃ z, Hid (L.seen.getD k 0 = z) := ⟨_, rfl⟩
                                            obtain ⟨y, hy⟩ : ∃ z, Hid (Z.getD k 0 = z) := ⟨_, rfl⟩
                                            obtain ⟨h, hh⟩ : ∃ z, Hid (H.getD k false = z) := ⟨_, rfl⟩
                                            have c3k : wr.cell? ⟨g3, o3 + k, none⟩ = some (.int .i32 z) := by rw [hc3 k hlt8, hz.out]
                                            have cSk : wr.cell? ⟨gS, k, none⟩ = some (.int .i32 y) := by rw [vS.out.int (by rw [hseen.out.1, HN.out.l3]; exact hlt8), hy.out]
                                            have cIk : wr.cell? ⟨W8.heap.size, k, none⟩ = some (.bool h) := by rw [hbI.out.cell, bls_get _ _ (by rw [hin.out.1]; exact hlt8), hh.out]
                                            have hys := hseen.out.2 k (by rw [HN.out.l3]; exact hlt8)
                                            rw [hy.out, hz.out, hp.out] at hys
                                            have hhs := hin.out.done hlt8
                                            rw [hh.out] at hhs
                                            clear hc3
                                            cases h
                                            · have hnF : ¬ k ∈ F := of_decide_eq_false hhs.symm
                                              rw [if_neg hnF] at hys
                                              subst hys
                                              clear hhs hnF
                                              go_wp2
                                              go_roundw
                                              case rel => exact ⟨k + 1, by omega, by go_num, trivial⟩
                                              case measure => simp [intOf]; omega
                                            · have hnF : k ∈ F := of_decide_eq_true hhs.symm
                                              rw [if_pos hnF] at hys
                                              subst hys
                                              clear hhs hnF
                                              go_wp2
                                              go_roundw
                                              case rel => exact ⟨k + 1, by omega, by go_num, trivial⟩
                                              case measure => simp [intOf]; omega
                                        · have ek : n3 = k := by omega
                                          subst ek
                                          as_aux_lemma =>
                                            go_wp2
                                            go_ret
                                            exact ⟨rfl, HB.out.trans (v0.out.mono HB.out.size)⟩
end Go.Proofs.Qxb6603398a
