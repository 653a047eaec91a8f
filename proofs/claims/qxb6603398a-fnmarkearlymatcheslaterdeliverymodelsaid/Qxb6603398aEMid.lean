/-
  THE WALK of (*checker).markEarly: its memory in the middle.
-/
import Derived.Test.Qxb6603398aRows
import Derived.Test.Qxb6603398aEState

namespace Go.Proofs.Qxb6603398a
open Go.RowKit Mem Early E
set_option linter.unusedVariables false

/-- Messages as numbers. -/
def natsZ (F : List Nat) : List Int := F.map fun (b : Nat) => (b : Int)
theorem slice0 (w : World) : (Instr.slice 29 (.slice none 0 0) none (some (.int .i64 0)) none).run Try.prog w = .ok (.slice none 0 0) w := by
  have e3 : Try.prog.elem 29 = 21 := by kernel_rfl
  have hu : Try.prog.underlying 29 = some (.slice (Try.prog.elem 29)) := by rw [e3]; exact Try.underlying29
  obtain ⟨i, hi, hz0, hz1, hz2⟩ := info_parts Try.info21
  rw [run_slice_h w 29 none 0 0 hu .i64 0 (by omega) (by omega), e3]
  simp [sizeOf, typeInfo, hi, hz1, Result.andThen, sliced]

/-- The order of the blocks. -/
structure OrdE (B gS gM gE gMs gP pl pk pc : Nat) : Prop where
  o1 : B ≤ gS
  o2 : gS < gM
  o3 : gM < gE
  o4 : gE < gMs
  o5 : gMs < gP
  o6 : gP < pl
  o7 : pl < pk
  o8 : pk < pc
/-- The lengths. -/
structure LensE (L : Lists) (n1 n2 n3 n4 n5 n6 n7 n8 n9 n10 n11 : Nat) : Prop where
  l1 : L.msgs.length = n1
  l1' : L.sends.length = n1
  l2 : L.sender.length = n2
  l3 : L.seen.length = n3
  l4 : L.scope.length = n4
  l5 : L.stream.length = n5
  l6 : L.seq.length = n6
  l7 : L.row.length = n7
  l8 : L.ss.length = n8
  l9 : L.slot.length = n9
  l10 : L.width.length = n10
  l11 : L.rows.length = n11
  sum : n1 + n2 + n3 + n4 + n5 + n6 + n7 + n8 + n9 + n10 + n11 ≤ 1048576

/-- The checker's memory in the middle. -/
structure Mid (L : Lists) (w wr : World) (pl pk pc gS n3 gM n8 : Nat) (F : List Nat) (vF vE vS : Value) (Z : List Int) (M : List Int) : Prop where
  kp : Keeps (Wr pc gS gM) w wr
  pc : Blk wr pc (chk pl pk gS n3 gM n8 vF vE vS) 66
  gS : Blk wr gS (ints .i32 Z) 21
  gM : Blk wr gM (ints .i32 M) 21
  own : wr.ownsRow w.heap.size 21 1 vF F.length (ints .i32 (natsZ F))
  seen : SeenIs L F Z

theorem stat_keeps {L : Lists} {w w' : World} {B pl pk pc gP gE gMs gS gM n1 n2 : Nat} {a4 a5 a6 a7 a8 a9 a10 a11 : Option Addr} {n4 n5 n6 n7 n8 n9 n10 n11 c4 c5 c6 c7 c8 c9 c10 c11 : Nat} (h : Stat L w B pl pk gP gE gMs n1 n2 a4 a5 a6 a7 a8 a9 a10 a11 n4 n5 n6 n7 n8 n9 n10 n11 c4 c5 c6 c7 c8 c9 c10 c11) (ho : OrdE B gS gM gE gMs gP pl pk pc) (hpc : pc < w.heap.size) (hk : Keeps (Wr pc gS gM) w w') : Stat L w' B pl pk gP gE gMs n1 n2 a4 a5 a6 a7 a8 a9 a10 a11 n4 n5 n6 n7 n8 n9 n10 n11 c4 c5 c6 c7 c8 c9 c10 c11 := by
  obtain ⟨o1, o2, o3, o4, o5, o6, o7, o8⟩ := ho
  refine h.same (fun j hj => hk.block j (by omega) ?_)
  unfold Wr
  omega
theorem ownBlock_ge {w : World} {base : Nat} {e : TypeId} {size : Nat} {v : Value} {n : Nat} {xs : List Value} (h : w.ownsRow base e size v n xs) {k : Nat} (hk : k < base) : some k ≠ v.ownBlock := by
  intro e1
  have := (h.lt k e1.symm).1
  omega
theorem owns_other {w : World} {base : Nat} {e : TypeId} {size : Nat} {v : Value} {n : Nat} {xs : List Value} (h : w.ownsRow base e size v n xs) {p : Addr} (hp : p.block < base) (u : Value) : (w.setCell p u).ownsRow base e size v n xs := by
  refine h.kept (row := some p.block) ⟨rfl, rfl, rfl, by simp [World.setCell], fun k _ hne => Below.heap_setCell _ _ _ _ (fun e1 => hne (by rw [e1]))⟩ ?_
  exact .inr (fun e1 => ownBlock_ge h hp e1.symm)
theorem Mid.alloc {L : Lists} {w wr : World} {pl pk pc gS n3 gM n8 : Nat} {F : List Nat} {vF vE vS : Value} {Z M : List Int} (h : Mid L w wr pl pk pc gS n3 gM n8 F vF vE vS Z M) (o : Obj) : Mid L w (wr.alloc o) pl pk pc gS n3 gM n8 F vF vE vS Z M :=
  ⟨h.kp.alloc o, h.pc.alloc o, h.gS.alloc o, h.gM.alloc o, h.own.alloc o, h.seen⟩
theorem Mid.drewN {L : Lists} {w wr : World} {pl pk pc gS n3 gM n8 : Nat} {F : List Nat} {vF vE vS : Value} {Z M : List Int} (h : Mid L w wr pl pk pc gS n3 gM n8 F vF vE vS Z M) (d : Nat) : Mid L w (wr.drewN d) pl pk pc gS n3 gM n8 F vF vE vS Z M :=
  ⟨h.kp.drewN d, h.pc, h.gS, h.gM, h.own, h.seen⟩
theorem natsZ_append (F : List Nat) (b : Nat) : natsZ (F ++ [b]) = natsZ F ++ [(b : Int)] := by simp [natsZ]
theorem natsZ_length (F : List Nat) : (natsZ F).length = F.length := by simp [natsZ]
/-- Behind 'c.seen[m] = p + 1; c.first = append(c.first, m)'. -/
theorem mid_append {L : Lists} {w wr W3 w' : World} {pl pk pc gS n3 gM n8 : Nat} {F : List Nat} {vF vE vS v' : Value} {Z M : List Int} {m : Nat} {o : Obj}
    (h : Mid L w wr pl pk pc gS n3 gM n8 F vF vE vS Z M) (hm : m < L.seen.length) (hne : pc ≠ gS) (hne' : pc ≠ gM) (hne2 : gS ≠ gM) (hlt : pc < w.heap.size) (hltS : gS < w.heap.size) (hltM : gM < w.heap.size)
    (h3 : ∀ k : Nat, W3.heap[k]? = (wr.setCell ⟨gS, m, none⟩ (.int .i32 ((L.p : Int) + 1))).heap[k]?) (hs3 : W3.heap.size = wr.heap.size) (ho3 : W3.os = wr.os) (ht3 : W3.tape = wr.tape) (hp3 : W3.output = wr.output)
    (hg : (W3.alloc o).grownBy w' vF.ownBlock) (hown : w'.ownsRow w.heap.size 21 1 v' (F.length + 1) (ints .i32 (natsZ F) ++ [.int .i32 (m : Int)])) :
    Mid L w (w'.setCell ⟨pc, 4, none⟩ v') pl pk pc gS n3 gM n8 (F ++ [m]) v' vE vS (Z.set m ((L.p : Int) + 1)) M := by
  have hle : w.heap.size ≤ wr.heap.size := h.kp.size
  have hsz : (W3.alloc o).heap.size = wr.heap.size + 1 := by simp [hs3]
  have blk : ∀ k, k < w.heap.size → w'.heap[k]? = (wr.setCell ⟨gS, m, none⟩ (.int .i32 ((L.p : Int) + 1))).heap[k]? := by
    intro k hk
    rw [hg.block k (by rw [hsz]; omega) (ownBlock_ge h.own hk), Below.heap_alloc W3 o k (by rw [hs3]; omega), h3 k]
  have bpc : Blk w' pc (chk pl pk gS n3 gM n8 vF vE vS) 66 := by
    have := h.pc.other hne m (.int .i32 ((L.p : Int) + 1))
    unfold Blk at this ⊢
    rw [blk pc hlt]; exact this
  have bS : Blk w' gS (ints .i32 (Z.set m ((L.p : Int) + 1))) 21 := by
    have := h.gS.set m (.int .i32 ((L.p : Int) + 1))
    rw [ints_set] at this
    unfold Blk at this ⊢
    rw [blk gS hltS]; exact this
  have bM : Blk w' gM (ints .i32 M) 21 := by
    have := h.gM.other (fun e => hne2 e.symm) m (.int .i32 ((L.p : Int) + 1))
    unfold Blk at this ⊢
    rw [blk gM hltM]; exact this
  refine ⟨?_, ?_, bS.other (fun e => hne e.symm) 4 v', bM.other (fun e => hne' e.symm) 4 v', ?_, ?_⟩
  · have k1 : Keeps (Wr pc gS gM) w (wr.setCell ⟨gS, m, none⟩ (.int .i32 ((L.p : Int) + 1))) := h.kp.setCell (.inr (.inl rfl)) _
    have k2 : Keeps (Wr pc gS gM) w w' := by
      refine ⟨?_, ?_, ?_, ?_, fun k hk hs => (blk k hk).trans (k1.block k hk hs)⟩
      · exact hg.os.trans ((show (W3.alloc o).os = W3.os from rfl).trans (ho3.trans h.kp.os))
      · exact hg.tape.trans ((show (W3.alloc o).tape = W3.tape from rfl).trans (ht3.trans h.kp.tape))
      · exact hg.output.trans ((show (W3.alloc o).output = W3.output from rfl).trans (hp3.trans h.kp.output))
      · have := hg.size; rw [hsz] at this; omega
    exact k2.setCell (.inl rfl) _
  · have := bpc.set 4 v'
    simpa [chk] using this
  · rw [natsZ_append, ints_append, List.length_append, List.length_singleton]
    exact owns_other hown hlt v'
  · exact h.seen.more hm
theorem one_new (W : World) (v : Value) (e : TypeId) : ∀ (j : Nat) (u : Value), [v][j]? = some u → ((W.alloc (.cells #[v] e)).drew).cell? ((⟨W.heap.size, 0, none⟩ : Addr).add j) = some u := by
  intro j u hj
  have hb := (Blk.new W [v] e).drew
  rw [Addr.add_lit, Nat.zero_add]
  exact (hb.cell j).trans hj
theorem slice_of_own {w : World} {base : Nat} {e : TypeId} {size : Nat} {v : Value} {n : Nat} {xs : List Value} (h : w.ownsRow base e size v n xs) : ∃ a c, v = .slice a n c := by
  rcases h.2 with ⟨rfl, rfl⟩ | ⟨g, cap, cur, rfl, _⟩
  · exact ⟨none, 0, rfl⟩
  · exact ⟨_, _, rfl⟩
theorem grow_blk {W w' : World} {row : Option Nat} {g : Nat} {cs : List Value} {e : TypeId} (hg : W.grownBy w' row) (h : Blk W g cs e) (hne : some g ≠ row) : Blk w' g cs e := by
  unfold Blk
  rw [hg.block g h.lt hne]
  exact h
theorem grow_drew {W w' : World} {row : Option Nat} (hg : W.drew.grownBy w' row) : W.grownBy w' row := ⟨hg.os, hg.tape, hg.output, hg.size, hg.block⟩

theorem own_base {w : World} {base base' : Nat} {e : TypeId} {size : Nat} {v : Value} {n : Nat} {xs : List Value} (h : w.ownsRow base e size v n xs) (hb : base' ≤ base) : w.ownsRow base' e size v n xs := by
  refine ⟨h.1, ?_⟩
  rcases h.2 with h1 | ⟨g, cap, cur, e1, h2, h3⟩
  · exact .inl h1
  · exact .inr ⟨g, cap, cur, e1, by omega, h3⟩
theorem own_cell {w : World} {base : Nat} {e : TypeId} {v : Value} {n g c : Nat} {xs : List Value} (h : w.ownsRow base e 1 v n xs) (hv : v = .slice (some ⟨g, 0, none⟩) n c) {i : Nat} (hi : i < n) : w.cell? ⟨g, i, none⟩ = xs[i]? ∧ w.frozen? ⟨g, i, none⟩ = false := by
  subst hv
  rcases h.2 with ⟨h1, _⟩ | ⟨g', cap, cur, e1, h2, h3, h4, h5, h6, h7⟩
  · cases h1
  · cases e1
    refine ⟨?_, frozen_of_row w g i cur e h3⟩
    rw [cell_of_row w g i cur e (0, 0) h3, ← h7, List.getElem?_take, if_pos (by omega)]
    simp
theorem own_some {w : World} {base : Nat} {e : TypeId} {a : Option Addr} {n c : Nat} {xs : List Value} (h : w.ownsRow base e 1 (.slice a n c) n xs) (hn : 0 < n) : ∃ g, a = some ⟨g, 0, none⟩ ∧ base ≤ g ∧ g < w.heap.size ∧ n ≤ c := by
  rcases h.2 with ⟨h1, h2⟩ | ⟨g', cap, cur, e1, h2, h3, h4, _⟩
  · omega
  · cases e1
    exact ⟨g', rfl, h2, lt_of_block h3, h4⟩
theorem own_set {w : World} {base : Nat} {e : TypeId} {v : Value} {n g c : Nat} {xs : List Value} (h : w.ownsRow base e 1 v n xs) (hv : v = .slice (some ⟨g, 0, none⟩) n c) {i : Nat} (hi : i < n) (u : Value) : (w.setCell ⟨g, i, none⟩ u).ownsRow base e 1 v n (xs.set i u) := by
  subst hv
  rcases h.2 with ⟨h1, _⟩ | ⟨g', cap, cur, e1, h2, h3, h4, h5, h6, h7⟩
  · cases h1
  · cases e1
    refine ⟨by rw [List.length_set]; exact h.1, .inr ⟨g, c, cur.setIfInBounds i u, rfl, h2, heap_setCell_same w g i cur e u h3, h4, h5, by simpa using h6, ?_⟩⟩
    rw [← h7]
    simp [List.take_set]
theorem own_ne {w : World} {base : Nat} {e : TypeId} {size : Nat} {v : Value} {n : Nat} {xs : List Value} (h : w.ownsRow base e size v n xs) {p : Addr} (hp : some p.block ≠ v.ownBlock) (u : Value) : (w.setCell p u).ownsRow base e size v n xs := by
  refine h.kept (row := some p.block) ⟨rfl, rfl, rfl, by simp [World.setCell], fun k _ hne => Below.heap_setCell _ _ _ _ (fun e1 => hne (by rw [e1]))⟩ ?_
  exact .inr (fun e1 => hp e1.symm)
theorem own_grow {w w' : World} {base : Nat} {e : TypeId} {size : Nat} {v : Value} {n : Nat} {xs : List Value} {row : Option Nat} (h : w.ownsRow base e size v n xs) (hg : w.grownBy w' row) (hr : ∀ g, row = some g → some g ≠ v.ownBlock) : w'.ownsRow base e size v n xs := by
  refine h.kept hg ?_
  cases hv : v.ownBlock with
  | none => exact .inl rfl
  | some g => exact .inr (fun e1 => hr g e1.symm hv.symm)

theorem Keeps.far {S : Nat → Prop} {a w : World} (h : Keeps S a w) {p : Addr} (hp : a.heap.size ≤ p.block) (u : Value) : Keeps S a (w.setCell p u) :=
  ⟨h.os, h.tape, h.output, by have := h.size; simpa [World.setCell] using this, fun k hk hs => (Below.heap_setCell _ _ _ _ (by omega)).trans (h.block k hk hs)⟩
/-- 'append(nil[:0], make([]bool, n)...)'. -/
theorem zeros_run (n : Nat) (hn : n ≤ 1048576) (w : World) : ∃ (v' : Value) (w' : World), (∀ ty, (Builtin.append_ #[32, 3] ty #[.slice none 0 0, .int .i64 (n : Int)]).run Try.prog w = .ok v' w') ∧ w'.ownsRow w.heap.size 4 1 v' n (bls (List.replicate n false)) ∧ w.grownBy w' none := by
  obtain ⟨i, hi, hz0, hz1, hz2⟩ := info_parts info4
  by_cases h0 : n = 0
  · subst h0
    refine ⟨.slice none 0 0, w, fun ty => ?_, World.ownsRow_nil _ _ _ _, ⟨rfl, rfl, rfl, Nat.le_refl _, fun _ _ _ => rfl⟩⟩
    have htn : Try.prog.underlying 3 = some (.int .i64) := by kernel_rfl
    simp [Builtin.append_, run_underlying Try.underlying32, run_underlying htn, sizeOf, typeInfo, hi, asInt, asIntOf, hz2, show IntKind.i64.wrap 0 = 0 by rfl]
  · have htn : Try.prog.underlying 3 = some (.int .i64) := by kernel_rfl
    have hr := fun ty => Lib.run_append_nil_zeros (P := Try.prog) w 32 3 ty 4 i (.bool false) .i64 .i64 Try.underlying32 htn hi hz0 n (by omega) (by omega) (by omega) (by rw [hz2]; omega)
    have hge := grownCap_ge w n 0 4
    have hcm : grownCap w n 0 4 ≤ maxLen := grownCap_le_maxLen w n 0 4 (by simp only [maxLen]; omega)
    refine ⟨_, _, hr, ?_, ?_⟩
    rotate_left
    · exact ⟨rfl, rfl, rfl, by simp, fun k hk _ => Below.heap_alloc w.drew _ k hk⟩
    refine ⟨by simp [bls], .inr ⟨w.heap.size, _, _, rfl, Nat.le_refl _, heap_alloc_new w.drew _, hge, hcm, ?_, ?_⟩⟩
    · simp only [Array.size_append, size_zeroCells, show (Value.bool false).cells.size = 1 from rfl]
      omega
    · simp only [Array.toList_append, Nat.mul_one]
      have e1 : (Builtin.zeroCells (Value.bool false).cells n).toList = bls (List.replicate n false) := by
        simp only [Builtin.zeroCells, show (Value.bool false).cells = #[.bool false] from rfl, bls]
        apply List.ext_getElem (by simp)
        intro j h1 h2
        simp [Nat.mod_one]
      rw [e1]
      exact List.take_left' (by simp [bls])
theorem slice0g (a : Option Addr) (n c : Nat) (w : World) : (Instr.slice 29 (.slice a n c) none (some (.int .i64 0)) none).run Try.prog w = .ok (.slice a 0 c) w := by
  have e3 : Try.prog.elem 29 = 21 := by kernel_rfl
  have hu : Try.prog.underlying 29 = some (.slice (Try.prog.elem 29)) := by rw [e3]; exact Try.underlying29
  obtain ⟨i, hi, hz0, hz1, hz2⟩ := info_parts Try.info21
  rw [run_slice_h w 29 a n c hu .i64 0 (by omega) (by omega), e3]
  simp [sizeOf, typeInfo, hi, hz1, Result.andThen, sliced, Addr.add]
theorem slice0b (w : World) : (Instr.slice 32 (.slice none 0 0) none (some (.int .i64 0)) none).run Try.prog w = .ok (.slice none 0 0) w := by
  have e3 : Try.prog.elem 32 = 4 := by kernel_rfl
  have hu : Try.prog.underlying 32 = some (.slice (Try.prog.elem 32)) := by rw [e3]; exact Try.underlying32
  obtain ⟨i, hi, hz0, hz1, hz2⟩ := info_parts info4
  rw [run_slice_h w 32 none 0 0 hu .i64 0 (by omega) (by omega), e3]
  simp [sizeOf, typeInfo, hi, hz1, Result.andThen, sliced]

/-- Markings behind the messages from j on. -/
def EarIs (L : Lists) (F : List Nat) (j : Nat) (H : List Bool) : Prop := H.length = F.length ∧ ∀ i, i < F.length → H.getD i false = if j ≤ i then (earlyOf L F).getD i false else false
theorem EarIs.start (L : Lists) (F : List Nat) : EarIs L F F.length (List.replicate F.length false) := by
  refine ⟨by simp, fun i hi => ?_⟩
  rw [if_neg (by omega)]
  simp [List.getD, hi]
theorem EarIs.set {L : Lists} {F : List Nat} {j : Nat} {H : List Bool} (h : EarIs L F (j + 1) H) (hj : j < F.length) (he : (F.drop (j + 1)).any (hit L (F.getD j 0)) = true) : EarIs L F j (H.set j true) := by
  refine ⟨by simp [h.1], fun i hi => ?_⟩
  by_cases e : i = j
  · subst e
    rw [if_pos (Nat.le_refl _), earlyOf_get L F i hi, he]
    simp [List.getD, h.1, hi]
  · have : (H.set j true).getD i false = H.getD i false := by simp [List.getD, show ¬ j = i by omega]
    rw [this, h.2 i hi]
    by_cases e2 : j ≤ i
    · rw [if_pos e2, if_pos (by omega)]
    · rw [if_neg e2, if_neg (by omega)]
theorem EarIs.stay {L : Lists} {F : List Nat} {j : Nat} {H : List Bool} (h : EarIs L F (j + 1) H) (hj : j < F.length) (he : (F.drop (j + 1)).any (hit L (F.getD j 0)) = false) : EarIs L F j H := by
  refine ⟨h.1, fun i hi => ?_⟩
  rw [h.2 i hi]
  by_cases e : i = j
  · subst e
    rw [if_pos (Nat.le_refl _), if_neg (by omega), earlyOf_get L F i hi, he]
  · by_cases e2 : j ≤ i
    · rw [if_pos e2, if_pos (by omega)]
    · rw [if_neg e2, if_neg (by omega)]
theorem EarIs.done {L : Lists} {F : List Nat} {H : List Bool} (h : EarIs L F 0 H) : H = earlyOf L F := by
  apply List.ext_getElem (by rw [h.1, earlyOf_len])
  intro i h1 h2
  have := h.2 i (by rw [← h.1]; exact h1)
  simp only [Nat.zero_le, if_true, List.getD, List.getElem?_eq_getElem h1, List.getElem?_eq_getElem h2, Option.getD_some] at this
  exact this

/-- The checker's memory in the second loop. -/
structure Mid2 (L : Lists) (w wr : World) (pl pk pc gS n3 gM n8 b1 b2 : Nat) (F : List Nat) (vF vE vS : Value) (Z M : List Int) (S : List Nat) (H : List Bool) : Prop where
  mid : Mid L w wr pl pk pc gS n3 gM n8 F vF vE vS Z M
  ear : wr.ownsRow b1 4 1 vE F.length (bls H)
  str : wr.ownsRow b2 21 1 vS S.length (ints .i32 (natsZ S))
  lF : ∀ g, vF.ownBlock = some g → g < b1
  lE : ∀ g, vE.ownBlock = some g → g < b2
  lb1 : w.heap.size ≤ b1
  lb2 : b1 ≤ b2
  lb3 : b2 ≤ wr.heap.size
section
variable {L : Lists} {w wr : World} {pl pk pc gS n3 gM n8 b1 b2 : Nat} {F : List Nat} {vF vE vS : Value} {Z M : List Int} {S : List Nat} {H : List Bool}
theorem Mid2.alloc (h : Mid2 L w wr pl pk pc gS n3 gM n8 b1 b2 F vF vE vS Z M S H) (o : Obj) : Mid2 L w (wr.alloc o) pl pk pc gS n3 gM n8 b1 b2 F vF vE vS Z M S H :=
  ⟨h.mid.alloc o, h.ear.alloc o, h.str.alloc o, h.lF, h.lE, h.lb1, h.lb2, by have := h.lb3; simp; omega⟩
theorem Mid2.drewN (h : Mid2 L w wr pl pk pc gS n3 gM n8 b1 b2 F vF vE vS Z M S H) (d : Nat) : Mid2 L w (wr.drewN d) pl pk pc gS n3 gM n8 b1 b2 F vF vE vS Z M S H :=
  ⟨h.mid.drewN d, h.ear, h.str, h.lF, h.lE, h.lb1, h.lb2, h.lb3⟩
/-- 'c.early[i] = true'. -/
theorem Mid2.early (h : Mid2 L w wr pl pk pc gS n3 gM n8 b1 b2 F vF vE vS Z M S H) {g c i : Nat} (hv : vE = .slice (some ⟨g, 0, none⟩) F.length c) (hi : i < F.length) (hpc : pc < w.heap.size) (hS : gS < w.heap.size) (hM : gM < w.heap.size) :
    Mid2 L w (wr.setCell ⟨g, i, none⟩ (.bool true)) pl pk pc gS n3 gM n8 b1 b2 F vF vE vS Z M S (H.set i true) := by
  have hg : b1 ≤ g ∧ g < wr.heap.size := h.ear.lt g (by rw [hv]; rfl)
  have hg2 : g < b2 := h.lE g (by rw [hv]; rfl)
  have hb := h.lb1
  refine ⟨⟨Keeps.far h.mid.kp (by show w.heap.size ≤ g; omega) _, h.mid.pc.other (by omega) _ _, h.mid.gS.other (by omega) _ _, h.mid.gM.other (by omega) _ _, own_ne h.mid.own (fun e => by have := h.lF g e.symm; omega) _, h.mid.seen⟩, ?_, own_ne h.str (fun e => by have := (h.str.lt g e.symm).1; omega) _, h.lF, h.lE, h.lb1, h.lb2, by have := h.lb3; simpa [World.setCell] using this⟩
  have := own_set h.ear hv hi (.bool true)
  rw [bls_set] at this
  exact this
/-- 'c.minLater[s] = z'. -/
theorem Mid2.min (h : Mid2 L w wr pl pk pc gS n3 gM n8 b1 b2 F vF vE vS Z M S H) (s : Nat) (z : Int) (hM : gM < w.heap.size) (h1 : pc ≠ gM) (h2 : gS ≠ gM) :
    Mid2 L w (wr.setCell ⟨gM, s, none⟩ (.int .i32 z)) pl pk pc gS n3 gM n8 b1 b2 F vF vE vS Z (M.set s z) S H := by
  have hb := h.lb1
  have hb2 := h.lb2
  refine ⟨⟨h.mid.kp.setCell (.inr (.inr rfl)) _, h.mid.pc.other h1 _ _, h.mid.gS.other h2 _ _, ?_, owns_other h.mid.own hM _, h.mid.seen⟩, owns_other h.ear (by show gM < b1; omega) _, owns_other h.str (by show gM < b2; omega) _, h.lF, h.lE, h.lb1, h.lb2, by have := h.lb3; simpa [World.setCell] using this⟩
  have := h.mid.gM.set s (.int .i32 z)
  rw [ints_set] at this
  exact this
/-- 'c.streams = append(c.streams, s)'. -/
theorem Mid2.push (h : Mid2 L w wr pl pk pc gS n3 gM n8 b1 b2 F vF vE vS Z M S H) {w5 : World} {v5 : Value} {s : Nat} (hpc : pc < w.heap.size) (hS : gS < w.heap.size) (hM : gM < w.heap.size) (q1 : pc ≠ gS) (q2 : pc ≠ gM)
    (hg : wr.grownBy w5 vS.ownBlock) (hown : w5.ownsRow b2 21 1 v5 (S.length + 1) (ints .i32 (natsZ S) ++ [.int .i32 (s : Int)])) :
    Mid2 L w (w5.setCell ⟨pc, 8, none⟩ v5) pl pk pc gS n3 gM n8 b1 b2 F vF vE v5 Z M (S ++ [s]) H := by
  have hb := h.lb1
  have hb2 := h.lb2
  have hb3 := h.lb3
  have hk := h.mid.kp.size
  have nb : ∀ k, k < b2 → some k ≠ vS.ownBlock := fun k hk => ownBlock_ge h.str hk
  have bpc := grow_blk hg h.mid.pc (nb pc (by omega))
  have bS := grow_blk hg h.mid.gS (nb gS (by omega))
  have bM := grow_blk hg h.mid.gM (nb gM (by omega))
  have oF : w5.ownsRow w.heap.size 21 1 vF F.length (ints .i32 (natsZ F)) := own_grow h.mid.own hg (fun g e1 e2 => by have := h.lF g e2.symm; have := (h.str.lt g e1).1; omega)
  have oE : w5.ownsRow b1 4 1 vE F.length (bls H) := own_grow h.ear hg (fun g e1 e2 => by have := h.lE g e2.symm; have := (h.str.lt g e1).1; omega)
  have kp : Keeps (Wr pc gS gM) w w5 := ⟨hg.os.trans h.mid.kp.os, hg.tape.trans h.mid.kp.tape, hg.output.trans h.mid.kp.output, by have := hg.size; omega, fun k hk' hs => (hg.block k (by omega) (nb k (by omega))).trans (h.mid.kp.block k hk' hs)⟩
  refine ⟨⟨kp.setCell (.inl rfl) _, ?_, bS.other (fun e => q1 e.symm) _ _, bM.other (fun e => q2 e.symm) _ _, owns_other oF hpc _, h.mid.seen⟩, owns_other oE (by show pc < b1; omega) _, ?_, h.lF, h.lE, h.lb1, h.lb2, by have := hg.size; simp [World.setCell]; omega⟩
  · have := bpc.set 8 v5
    simpa [chk] using this
  · rw [natsZ_append, ints_append, List.length_append, List.length_singleton]
    exact owns_other hown (by show pc < b2; omega) _
/-- 'c.streams = c.streams[:0]'. -/
theorem Mid2.last (h : Mid2 L w wr pl pk pc gS n3 gM n8 b1 b2 F vF vE vS Z M S H) (v : Value) (hpc : pc < w.heap.size) (q1 : pc ≠ gS) (q2 : pc ≠ gM) : Mid L w (wr.setCell ⟨pc, 8, none⟩ v) pl pk pc gS n3 gM n8 F vF vE v Z M ∧ (wr.setCell ⟨pc, 8, none⟩ v).ownsRow w.heap.size 4 1 vE F.length (bls H) := by
  have hb := h.lb1
  refine ⟨⟨h.mid.kp.setCell (.inl rfl) _, ?_, h.mid.gS.other (fun e => q1 e.symm) _ _, h.mid.gM.other (fun e => q2 e.symm) _ _, owns_other h.mid.own hpc _, h.mid.seen⟩, own_base (owns_other h.ear (by show pc < b1; omega) _) hb⟩
  have := h.mid.pc.set 8 v
  simpa [chk] using this
end
/-- Behind 'c.early = append(c.early[:0], make([]bool, n)...)'. -/
theorem mid2_start {L : Lists} {w wr w5 : World} {pl pk pc gS n3 gM n8 : Nat} {F : List Nat} {vF v5 : Value} {Z M : List Int} (h : Mid L w wr pl pk pc gS n3 gM n8 F vF (.slice none 0 0) (.slice none 0 0) Z M) (hpc : pc < w.heap.size) (hS : gS < w.heap.size) (hM : gM < w.heap.size) (q1 : pc ≠ gS) (q2 : pc ≠ gM)
    (hown : w5.ownsRow wr.heap.size 4 1 v5 F.length (bls (List.replicate F.length false))) (hg : wr.grownBy w5 none) :
    Mid2 L w (w5.setCell ⟨pc, 5, none⟩ v5) pl pk pc gS n3 gM n8 wr.heap.size w5.heap.size F vF v5 (.slice none 0 0) Z M [] (List.replicate F.length false) := by
  have hk := h.kp.size
  have nb : ∀ k : Nat, some k ≠ (none : Option Nat) := fun k => by simp
  have bpc := grow_blk hg h.pc (nb _)
  have bS := grow_blk hg h.gS (nb _)
  have bM := grow_blk hg h.gM (nb _)
  have oF : w5.ownsRow w.heap.size 21 1 vF F.length (ints .i32 (natsZ F)) := own_grow h.own hg (fun g e1 => by cases e1)
  have kp : Keeps (Wr pc gS gM) w w5 := ⟨hg.os.trans h.kp.os, hg.tape.trans h.kp.tape, hg.output.trans h.kp.output, by have := hg.size; omega, fun k hk' hs => (hg.block k (by omega) (nb k)).trans (h.kp.block k hk' hs)⟩
  refine ⟨⟨kp.setCell (.inl rfl) _, ?_, bS.other (fun e => q1 e.symm) _ _, bM.other (fun e => q2 e.symm) _ _, owns_other oF hpc _, h.seen⟩, owns_other hown (by show pc < wr.heap.size; omega) _, World.ownsRow_nil _ _ _ _, fun g e => (h.own.lt g e).2, fun g e => (hown.lt g e).2, hk, hg.size, by simp [World.setCell]⟩
  have := bpc.set 5 v5
  simpa [chk] using this
theorem rowb_at {k : IntKind} {w : World} {B b off n : Nat} {zs : List Int} (h : RowB k w B (some ⟨b, off, none⟩) n zs) {i : Nat} (hi : i < n) : w.cell? ⟨b, off + i, none⟩ = some (.int k (zs.getD i 0)) := by
  obtain ⟨b', off', e, _, hc⟩ := h.2 (by omega)
  simp only [Option.some.injEq, Addr.mk.injEq, and_true] at e
  obtain ⟨rfl, rfl⟩ := e
  exact hc i hi
/-- What makes b early, at the q-th stream. -/
def Hits (L : Lists) (b : Nat) (D S : List Nat) (x : Nat) : Prop := L.ss.getD (S.getD x 0) 0 = L.scope.getD b 0 ∧ minS L (S.getD x 0) D ≤ L.rows.getD (L.rowN b + L.slN (S.getD x 0)) 0
theorem hits_any {L : Lists} {b : Nat} {D : List Nat} {x : Nat} (hD : ∀ d ∈ D, 1 ≤ L.seq.getD d 0) (hx : x < (strS L D).length) (h : Hits L b D (strS L D) x) : D.any (hit L b) = true :=
  (early_iff hD).1 ⟨(strS L D).getD x 0, by simp [List.getD, hx], h⟩
theorem hits_none {L : Lists} {b : Nat} {D : List Nat} (hD : ∀ d ∈ D, 1 ≤ L.seq.getD d 0) (h : ∀ x, x < (strS L D).length → ¬ Hits L b D (strS L D) x) : D.any (hit L b) = false := by
  cases e : D.any (hit L b) with
  | false => rfl
  | true =>
    obtain ⟨s, hs, h1⟩ := (early_iff hD).2 e
    obtain ⟨x, hx, rfl⟩ := List.mem_iff_getElem.1 hs
    exact absurd (show Hits L b D (strS L D) x from by simpa [Hits, List.getD, hx] using h1) (h x hx)
theorem drop_at {F D : List Nat} {j b : Nat} (hj : j < F.length) (hb : F.getD j 0 = b) (hD : F.drop (j + 1) = D) : F.drop j = b :: D := by
  rw [List.drop_eq_getElem_cons hj, hD]
  simp only [List.getD, List.getElem?_eq_getElem hj, Option.getD_some] at hb
  rw [hb]
theorem one_new0 (W : World) (v : Value) (e : TypeId) : ∀ (j : Nat) (u : Value), [v][j]? = some u → (W.alloc (.cells #[v] e)).cell? ((⟨W.heap.size, 0, none⟩ : Addr).add j) = some u := one_new W v e
theorem all_zero {M : List Int} {n : Nat} (hl : M.length = n) (h : ∀ s, s < n → M.getD s 0 = 0) : M = List.replicate n 0 := by
  subst hl
  apply List.ext_getElem (by simp)
  intro i h1 h2
  have := h i h1
  simp only [List.getD, List.getElem?_eq_getElem h1, Option.getD_some] at this
  simpa using this
/-- What markEarly leaves. -/
def MarkRet (L : Lists) (w : World) (pl pk pc gS n3 gM n8 : Nat) (F : List Nat) (e : Ending) (w' : World) : Prop :=
  e = .returned (.tuple #[]) ∧ ∃ (vF vE : Value) (aS : Option Addr) (cS : Nat) (Z : List Int), Mid L w w' pl pk pc gS n3 gM n8 F vF vE (.slice aS 0 cS) Z (List.replicate n8 0) ∧ w'.ownsRow w.heap.size 4 1 vE F.length (bls (earlyOf L F))
end Go.Proofs.Qxb6603398a
