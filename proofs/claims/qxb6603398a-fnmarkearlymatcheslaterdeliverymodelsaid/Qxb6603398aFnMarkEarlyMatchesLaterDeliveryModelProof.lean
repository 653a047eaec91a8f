/-
  THE ROW of 'FnMarkEarlyMatchesLaterDeliveryModel' over the walks (Qxb6603398aELaw, ELawOut): the guide's frame.
-/
import Derived.Test.Qxb6603398aELaw
import Derived.Test.Qxb6603398aELawOut
import Derived.WalkKit
import Derived.ProofKit
import Derived.OpenShut
import Derived.ShutString
import Derived.ChangeOld
import Derived.ChangeSame
import Derived.Deep.Slices
import Derived.Below
namespace Go.Proofs.Qxb6603398a.fnMarkEarlyMatchesLaterDeliveryModel
open Go.ChangeShapes Go.WideShapes Go.ChangeAt Go.RowKit
open Go.ChangeMaps (open_string shut_string)
set_option linter.unusedVariables false

theorem own : ownKnob Try.prog.godebug = none := by kernel_rfl
theorem laidOut : laidOutB Try.prog = true := by kernel_rfl

/-- WHAT THE WALK IS TOLD OF A SLICE OF INTEGERS THAT CAME IN. -/
def IsRow (k : IntKind) (w : World) (a : Option Addr) (len cap : Nat) (zs : List Int) : Prop :=
  (a = none ∧ len = 0 ∧ cap = 0 ∧ zs = []) ∨
  ∃ x, a = some x ∧ len ≤ cap ∧ cap ≤ maxLen ∧ zs.length = cap ∧ (∀ i, i < zs.length → w.cell? (x.add i) = some (.int k (zs.getD i 0))) ∧ ∀ n ∈ zs, (Lit.int k n).wf = true

theorem isRow_row {k : IntKind} {w : World} {a : Option Addr} {len cap : Nat} {zs : List Int} (h : IsRow k w a len cap zs) :
    Mem.Row k w a len (zs.take len) ∧ len ≤ maxLen ∧ (a = none → len = 0 ∧ cap = 0) ∧ ∀ x ∈ zs.take len, (Lit.int k x).wf = true := by
  rcases h with ⟨rfl, rfl, rfl, rfl⟩ | ⟨x, rfl, hlc, hcm, hz, hc, hw⟩
  · exact ⟨Mem.Row.nil _ _ _, Nat.zero_le _, fun _ => ⟨rfl, rfl⟩, fun x hx => absurd hx (by simp)⟩
  · refine ⟨⟨by rw [List.length_take]; omega, fun hl => ?_⟩, Nat.le_trans hlc hcm, fun h => (by cases h), fun y hy => hw y (List.mem_of_mem_take hy)⟩
    obtain ⟨b, off, spot⟩ := x
    have hspot : spot = none := by simpa [Addr.add] using World.cell?_spot (hc 0 (by omega))
    subst hspot
    refine ⟨b, off, rfl, World.block_lt_of_cell? w _ (hc 0 (by omega)), fun i hi => ?_⟩
    have h1 := hc i (by omega)
    rw [Addr.add_lit] at h1
    rw [h1]
    simp [List.getD, hi]
theorem in32 {zs : List Int} (h : ∀ x ∈ zs, (Lit.int .i32 x).wf = true) : In32 zs := by
  intro i
  by_cases hi : i < zs.length
  · have h1 := bounds_i32 (h zs[i] (List.getElem_mem hi))
    have e : zs.getD i 0 = zs[i] := by simp [List.getD, hi]
    rw [e]; omega
  · have e : zs.getD i 0 = 0 := by simp [List.getD, show zs.length ≤ i by omega]
    rw [e]; omega
theorem in64 {zs : List Int} (h : ∀ x ∈ zs, (Lit.int .i64 x).wf = true) : In64 zs := by
  intro i
  by_cases hi : i < zs.length
  · have h1 := bounds_i64 (h zs[i] (List.getElem_mem hi))
    have e : zs.getD i 0 = zs[i] := by simp [List.getD, hi]
    rw [e]; omega
  · have e : zs.getD i 0 = 0 := by simp [List.getD, show zs.length ≤ i by omega]
    rw [e]; omega

/-- WHAT THE WALK IS TOLD OF THE SLICE OF EVENTS THAT CAME IN. -/
def IsEvs (w : World) (a : Option Addr) (len : Nat) (ms : List Int) (ss : List Bool) : Prop := len ≤ maxLen ∧ EvRow w a len ms ss ∧ ∀ x ∈ ms, (Lit.int .i32 x).wf = true

theorem evs_open {H : Type} {enc : TypeId × Value → H} {w : World} {base : Nat} {spare : Nat → Bool} {held : Bool} {fuel : Nat} {a : Option Addr} {len cap : Nat} {x : DataW H × List MemPlace}
    (h : DataW.trod enc Try.prog w base spare held fuel 35 [.slice a len cap] = some x) : ∃ ms ss, IsEvs w a len ms ss := by
  rcases Deep.open_slice Try.underlying35 h with ⟨hcs, _⟩ | ⟨ad, l, c, m, n, D, Pl, hcs, _, hl, hm, hmm, _, hel⟩
  · simp only [List.cons.injEq, Value.slice.injEq, and_true] at hcs
    obtain ⟨rfl, rfl, rfl⟩ := hcs
    exact ⟨[], [], Nat.zero_le _, ⟨rfl, rfl, fun h0 => absurd h0 (by omega)⟩, fun x hx => absurd hx (by simp)⟩
  · simp only [List.cons.injEq, Value.slice.injEq, and_true] at hcs
    obtain ⟨rfl, rfl, rfl⟩ := hcs
    have hlm : len ≤ m := by rw [hmm]; split <;> omega
    have c38 : Try.prog.cellsOf 38 = 2 := by kernel_rfl
    have c21 : Try.prog.cellsOf 21 = 1 := by kernel_rfl
    have c4 : Try.prog.cellsOf 4 = 1 := by kernel_rfl
    have each : ∀ i, i < len → ∃ q : Int × Bool, w.cell? (ad.add (i * 2)) = some (.int .i32 q.1) ∧ w.cell? (ad.add (i * 2 + 1)) = some (.bool q.2) ∧ (Lit.int .i32 q.1).wf = true := by
      intro i hi
      obtain ⟨cs', hc, ht⟩ := hel i (by omega)
      rw [c38] at hc
      obtain ⟨_, hlen, hcell⟩ := World.cells?_some hc
      obtain ⟨y0, y1, n', _, _, h0, h1⟩ := trod_struct2 Try.underlying38 ht
      obtain ⟨z, hz, _, hwf⟩ := DataW.trod_int Try.underlying21 h0
      obtain ⟨b, hb, _⟩ := DataW.trod_bool Try.underlying4 h1
      simp only [c21, c4, List.drop_zero] at hz hb
      match cs', hlen with
      | [u0, u1], _ =>
        simp only [List.take_succ_cons, List.take_zero, List.drop_succ_cons, List.drop_zero, List.cons.injEq, and_true] at hz hb
        subst hz hb
        refine ⟨(z, b), ?_, ?_, hwf⟩
        · have := hcell 0 (by omega)
          simpa [Deep.add_add] using this
        · have := hcell 1 (by omega)
          simpa [Deep.add_add] using this
    obtain ⟨f, hf⟩ := Deep.choose_lt each
    refine ⟨(List.range len).map fun i => (f i).1, (List.range len).map fun i => (f i).2, Nat.le_trans hl hm, ⟨by simp, by simp, fun h0 => ?_⟩, ?_⟩
    · obtain ⟨b, off, spot⟩ := ad
      have hspot : spot = none := by simpa [Addr.add] using World.cell?_spot (hf 0 h0).1
      subst hspot
      refine ⟨b, off, rfl, World.block_lt_of_cell? w _ (hf 0 h0).1, fun i hi => ?_⟩
      have h1 := (hf i hi).1
      have h2 := (hf i hi).2.1
      rw [Addr.add_lit] at h1 h2
      rw [h1, ← Nat.add_assoc] at *
      rw [h2]
      simp [List.getD, hi]
    · intro x hx
      simp only [List.mem_map, List.mem_range] at hx
      obtain ⟨i, hi, rfl⟩ := hx
      exact (hf i hi).2.2

/-! ### STEP 1: THE WALK -/
theorem walk (p : Int) (hp : (Lit.int .i32 p).wf = true) (a1 : Option Addr) (len1 cap1 : Nat) (ms : List Int) (ss : List Bool) (a2 : Option Addr) (len2 cap2 : Nat) (z2 : List Int) (a3 : Option Addr) (len3 cap3 : Nat) (z3 : List Int) (a4 : Option Addr) (len4 cap4 : Nat) (z4 : List Int) (a5 : Option Addr) (len5 cap5 : Nat) (z5 : List Int) (a6 : Option Addr) (len6 cap6 : Nat) (z6 : List Int) (a7 : Option Addr) (len7 cap7 : Nat) (z7 : List Int) (a8 : Option Addr) (len8 cap8 : Nat) (z8 : List Int) (a9 : Option Addr) (len9 cap9 : Nat) (z9 : List Int) (a10 : Option Addr) (len10 cap10 : Nat) (z10 : List Int) (a11 : Option Addr) (len11 cap11 : Nat) (z11 : List Int) (w : World) (w1 : IsEvs w a1 len1 ms ss) (w2 : IsRow .i32 w a2 len2 cap2 z2) (w3 : IsRow .i32 w a3 len3 cap3 z3) (w4 : IsRow .i32 w a4 len4 cap4 z4) (w5 : IsRow .i32 w a5 len5 cap5 z5) (w6 : IsRow .i32 w a6 len6 cap6 z6) (w7 : IsRow .i64 w a7 len7 cap7 z7) (w8 : IsRow .i32 w a8 len8 cap8 z8) (w9 : IsRow .i32 w a9 len9 cap9 z9) (w10 : IsRow .i32 w a10 len10 cap10 z10) (w11 : IsRow .i32 w a11 len11 cap11 z11) :
    Calls Try.prog 5 #[.int .i32 p, .slice a1 len1 cap1, .slice a2 len2 cap2, .slice a3 len3 cap3, .slice a4 len4 cap4, .slice a5 len5 cap5, .slice a6 len6 cap6, .slice a7 len7 cap7, .slice a8 len8 cap8, .slice a9 len9 cap9, .slice a10 len10 cap10, .slice a11 len11 cap11] w fun e w' => e = .returned (.bool true) ∧ Below w.heap.size w w' := by
  obtain ⟨m1, r1, f1⟩ := w1
  obtain ⟨r2, m2, e2, f2⟩ := isRow_row w2
  obtain ⟨r3, m3, e3, f3⟩ := isRow_row w3
  obtain ⟨r4, m4, e4, f4⟩ := isRow_row w4
  obtain ⟨r5, m5, e5, f5⟩ := isRow_row w5
  obtain ⟨r6, m6, e6, f6⟩ := isRow_row w6
  obtain ⟨r7, m7, e7, f7⟩ := isRow_row w7
  obtain ⟨r8, m8, e8, f8⟩ := isRow_row w8
  obtain ⟨r9, m9, e9, f9⟩ := isRow_row w9
  obtain ⟨r10, m10, e10, f10⟩ := isRow_row w10
  obtain ⟨r11, m11, e11, f11⟩ := isRow_row w11
  by_cases hr : 0 ≤ p ∧ p ≤ 65536
  · obtain ⟨pn, rfl⟩ : ∃ pn : Nat, p = (pn : Int) := ⟨p.toNat, by omega⟩
    have hpn : pn ≤ 65536 := by omega
    have hL : InE ⟨pn, ms, ss, z2.take len2, z3.take len3, z4.take len4, z5.take len5, z6.take len6, z7.take len7, z8.take len8, z9.take len9, z10.take len10, z11.take len11⟩ := ⟨hpn, in32 f1, in32 f2, in32 f3, in32 f4, in32 f5, in32 f6, in64 f7, in32 f8, in32 f9, in32 f10, in32 f11⟩
    exact law_in ⟨pn, ms, ss, z2.take len2, z3.take len3, z4.take len4, z5.take len5, z6.take len6, z7.take len7, z8.take len8, z9.take len9, z10.take len10, z11.take len11⟩ hL a1 a2 a3 a4 a5 a6 a7 a8 a9 a10 a11 len1 len2 len3 len4 len5 len6 len7 len8 len9 len10 len11 cap1 cap2 cap3 cap4 cap5 cap6 cap7 cap8 cap9 cap10 cap11 w r1 r2 r3 r4 r5 r6 r7 r8 r9 r10 r11 m1 m2 m3 m4 m5 m6 m7 m8 m9 m10 m11 e2 e4 e5 e6 e7 e8 e9 e10 e11
  · exact law_out p (by omega) a1 a2 a3 a4 a5 a6 a7 a8 a9 a10 a11 len1 len2 len3 len4 len5 len6 len7 len8 len9 len10 len11 cap1 cap2 cap3 cap4 cap5 cap6 cap7 cap8 cap9 cap10 cap11 w m1 m2 m3 m4 m5 m6 m7 m8 m9 m10 m11

/-! ### THE ROW's STEP: WRITTEN OUT: LEAVE IT -/
set_option maxRecDepth 100000 in
theorem lifted (os : Os) (started : os.Started) (H : Type) (enc : TypeId × Value → H) :
    ReturnsInHanded {} Try.checked os 5 .any (Rows.fnMarkEarlyMatchesLaterDeliveryModelSpec.pre6 enc Try.prog Try.f5 Rows.fnMarkEarlyMatchesLaterDeliveryModelRow.domain false) (Rows.fnMarkEarlyMatchesLaterDeliveryModelSpec.post enc Try.prog Try.f5 false true false false) := by
  refine returnsInHanded_of_change (C := Try.checked) own started (by kernel_rfl) Try.func5
    (ChangeSpec.witness6 (enc := enc) (C := Try.checked) false ⟨#[], #[.int .i32 0, .slice none 0 0, .slice none 0 0, .slice none 0 0, .slice none 0 0, .slice none 0 0, .slice none 0 0, .slice none 0 0, .slice none 0 0, .slice none 0 0, .slice none 0 0, .slice none 0 0], []⟩ 8 (by kernel_rfl) (by kernel_rfl) (by kernel_rfl) (by kernel_rfl)) ?_
  intro W base args ds gs before hval0 hW hcnd _
  have hval : ∀ (j : Nat) t v, Try.f5.params[j]? = some t → args[j]? = some v → Value.okWide Try.prog W .any base t v := hval0
  have hW' := hW
  obtain ⟨p, q, hA0, hV, rfl, hfz, hnd⟩ := hW
  have hA : DataW.TrodAll enc Try.prog W 0 (fun _ => true) true Try.f5.params.toList args.toList ds p := hA0
  rw [Try.params5] at hA hval
  obtain ⟨v0, vs0, d0, ds0, p0, q0, hargs, rfl, rfl, h0, r0⟩ := trodAll_cons hA
  obtain ⟨v1, vs1, d1, ds1, p1, q1, rfl, rfl, rfl, h1, r1⟩ := trodAll_cons r0
  obtain ⟨v2, vs2, d2, ds2, p2, q2, rfl, rfl, rfl, h2, r2⟩ := trodAll_cons r1
  obtain ⟨v3, vs3, d3, ds3, p3, q3, rfl, rfl, rfl, h3, r3⟩ := trodAll_cons r2
  obtain ⟨v4, vs4, d4, ds4, p4, q4, rfl, rfl, rfl, h4, r4⟩ := trodAll_cons r3
  obtain ⟨v5, vs5, d5, ds5, p5, q5, rfl, rfl, rfl, h5, r5⟩ := trodAll_cons r4
  obtain ⟨v6, vs6, d6, ds6, p6, q6, rfl, rfl, rfl, h6, r6⟩ := trodAll_cons r5
  obtain ⟨v7, vs7, d7, ds7, p7, q7, rfl, rfl, rfl, h7, r7⟩ := trodAll_cons r6
  obtain ⟨v8, vs8, d8, ds8, p8, q8, rfl, rfl, rfl, h8, r8⟩ := trodAll_cons r7
  obtain ⟨v9, vs9, d9, ds9, p9, q9, rfl, rfl, rfl, h9, r9⟩ := trodAll_cons r8
  obtain ⟨v10, vs10, d10, ds10, p10, q10, rfl, rfl, rfl, h10, r10⟩ := trodAll_cons r9
  obtain ⟨v11, vs11, d11, ds11, p11, q11, rfl, rfl, rfl, h11, r11⟩ := trodAll_cons r10
  obtain ⟨rfl, rfl, rfl⟩ := trodAll_nil r11
  obtain rfl : args = #[v0, v1, v2, v3, v4, v5, v6, v7, v8, v9, v10, v11] := by cases args; simp_all
  obtain ⟨rfl, rfl⟩ := trodVars_none hV
  obtain ⟨pz, rfl, rfl, rfl, wp⟩ := open_int Try.underlying21 (hval 0 21 v0 rfl rfl) h0
  obtain ⟨a1, len1, cap1, rfl⟩ := okWide_slice Try.underlying35 (hval 1 35 v1 rfl rfl)
  have k1 := h1
  have lt1 : ∀ x ∈ p1, x.block < W.heap.size := by obtain ⟨m, hm⟩ := k1; exact DataW.trod_lt m _ _ _ hm
  obtain ⟨ms, ss, w1⟩ : ∃ ms ss, IsEvs W a1 len1 ms ss := by
    obtain ⟨fuel, hf⟩ := h1
    exact evs_open (by simpa [Value.cells] using hf)
  obtain ⟨a2, len2, cap2, rfl⟩ := okWide_slice Try.underlying29 (hval 2 29 v2 rfl rfl)
  have k2 := h2
  have lt2 : ∀ x ∈ p2, x.block < W.heap.size := by obtain ⟨m, hm⟩ := k2; exact DataW.trod_lt m _ _ _ hm
  obtain ⟨z2, w2⟩ : ∃ zs, IsRow .i32 W a2 len2 cap2 zs := by
    obtain ⟨fuel, hf⟩ := h2
    rcases open_ints Try.underlying29 Try.underlying21 (by kernel_rfl) hf with ⟨hcs, _⟩ | ⟨x, l, c, zs, hcs, _, hl, hm, hz, _, hcell, hwz⟩
    · simp [Value.cells] at hcs
      obtain ⟨rfl, rfl, rfl⟩ := hcs
      exact ⟨[], .inl ⟨rfl, rfl, rfl, rfl⟩⟩
    · simp [Value.cells] at hcs
      obtain ⟨rfl, rfl, rfl⟩ := hcs
      exact ⟨zs, .inr ⟨_, rfl, hl, hm, by simpa using hz, hcell, hwz⟩⟩
  obtain ⟨a3, len3, cap3, rfl⟩ := okWide_slice Try.underlying29 (hval 3 29 v3 rfl rfl)
  have k3 := h3
  have lt3 : ∀ x ∈ p3, x.block < W.heap.size := by obtain ⟨m, hm⟩ := k3; exact DataW.trod_lt m _ _ _ hm
  obtain ⟨z3, w3⟩ : ∃ zs, IsRow .i32 W a3 len3 cap3 zs := by
    obtain ⟨fuel, hf⟩ := h3
    rcases open_ints Try.underlying29 Try.underlying21 (by kernel_rfl) hf with ⟨hcs, _⟩ | ⟨x, l, c, zs, hcs, _, hl, hm, hz, _, hcell, hwz⟩
    · simp [Value.cells] at hcs
      obtain ⟨rfl, rfl, rfl⟩ := hcs
      exact ⟨[], .inl ⟨rfl, rfl, rfl, rfl⟩⟩
    · simp [Value.cells] at hcs
      obtain ⟨rfl, rfl, rfl⟩ := hcs
      exact ⟨zs, .inr ⟨_, rfl, hl, hm, by simpa using hz, hcell, hwz⟩⟩
  obtain ⟨a4, len4, cap4, rfl⟩ := okWide_slice Try.underlying29 (hval 4 29 v4 rfl rfl)
  have k4 := h4
  have lt4 : ∀ x ∈ p4, x.block < W.heap.size := by obtain ⟨m, hm⟩ := k4; exact DataW.trod_lt m _ _ _ hm
  obtain ⟨z4, w4⟩ : ∃ zs, IsRow .i32 W a4 len4 cap4 zs := by
    obtain ⟨fuel, hf⟩ := h4
    rcases open_ints Try.underlying29 Try.underlying21 (by kernel_rfl) hf with ⟨hcs, _⟩ | ⟨x, l, c, zs, hcs, _, hl, hm, hz, _, hcell, hwz⟩
    · simp [Value.cells] at hcs
      obtain ⟨rfl, rfl, rfl⟩ := hcs
      exact ⟨[], .inl ⟨rfl, rfl, rfl, rfl⟩⟩
    · simp [Value.cells] at hcs
      obtain ⟨rfl, rfl, rfl⟩ := hcs
      exact ⟨zs, .inr ⟨_, rfl, hl, hm, by simpa using hz, hcell, hwz⟩⟩
  obtain ⟨a5, len5, cap5, rfl⟩ := okWide_slice Try.underlying29 (hval 5 29 v5 rfl rfl)
  have k5 := h5
  have lt5 : ∀ x ∈ p5, x.block < W.heap.size := by obtain ⟨m, hm⟩ := k5; exact DataW.trod_lt m _ _ _ hm
  obtain ⟨z5, w5⟩ : ∃ zs, IsRow .i32 W a5 len5 cap5 zs := by
    obtain ⟨fuel, hf⟩ := h5
    rcases open_ints Try.underlying29 Try.underlying21 (by kernel_rfl) hf with ⟨hcs, _⟩ | ⟨x, l, c, zs, hcs, _, hl, hm, hz, _, hcell, hwz⟩
    · simp [Value.cells] at hcs
      obtain ⟨rfl, rfl, rfl⟩ := hcs
      exact ⟨[], .inl ⟨rfl, rfl, rfl, rfl⟩⟩
    · simp [Value.cells] at hcs
      obtain ⟨rfl, rfl, rfl⟩ := hcs
      exact ⟨zs, .inr ⟨_, rfl, hl, hm, by simpa using hz, hcell, hwz⟩⟩
  obtain ⟨a6, len6, cap6, rfl⟩ := okWide_slice Try.underlying29 (hval 6 29 v6 rfl rfl)
  have k6 := h6
  have lt6 : ∀ x ∈ p6, x.block < W.heap.size := by obtain ⟨m, hm⟩ := k6; exact DataW.trod_lt m _ _ _ hm
  obtain ⟨z6, w6⟩ : ∃ zs, IsRow .i32 W a6 len6 cap6 zs := by
    obtain ⟨fuel, hf⟩ := h6
    rcases open_ints Try.underlying29 Try.underlying21 (by kernel_rfl) hf with ⟨hcs, _⟩ | ⟨x, l, c, zs, hcs, _, hl, hm, hz, _, hcell, hwz⟩
    · simp [Value.cells] at hcs
      obtain ⟨rfl, rfl, rfl⟩ := hcs
      exact ⟨[], .inl ⟨rfl, rfl, rfl, rfl⟩⟩
    · simp [Value.cells] at hcs
      obtain ⟨rfl, rfl, rfl⟩ := hcs
      exact ⟨zs, .inr ⟨_, rfl, hl, hm, by simpa using hz, hcell, hwz⟩⟩
  obtain ⟨a7, len7, cap7, rfl⟩ := okWide_slice Try.underlying30 (hval 7 30 v7 rfl rfl)
  have k7 := h7
  have lt7 : ∀ x ∈ p7, x.block < W.heap.size := by obtain ⟨m, hm⟩ := k7; exact DataW.trod_lt m _ _ _ hm
  obtain ⟨z7, w7⟩ : ∃ zs, IsRow .i64 W a7 len7 cap7 zs := by
    obtain ⟨fuel, hf⟩ := h7
    rcases open_ints Try.underlying30 Try.underlying3 (by kernel_rfl) hf with ⟨hcs, _⟩ | ⟨x, l, c, zs, hcs, _, hl, hm, hz, _, hcell, hwz⟩
    · simp [Value.cells] at hcs
      obtain ⟨rfl, rfl, rfl⟩ := hcs
      exact ⟨[], .inl ⟨rfl, rfl, rfl, rfl⟩⟩
    · simp [Value.cells] at hcs
      obtain ⟨rfl, rfl, rfl⟩ := hcs
      exact ⟨zs, .inr ⟨_, rfl, hl, hm, by simpa using hz, hcell, hwz⟩⟩
  obtain ⟨a8, len8, cap8, rfl⟩ := okWide_slice Try.underlying29 (hval 8 29 v8 rfl rfl)
  have k8 := h8
  have lt8 : ∀ x ∈ p8, x.block < W.heap.size := by obtain ⟨m, hm⟩ := k8; exact DataW.trod_lt m _ _ _ hm
  obtain ⟨z8, w8⟩ : ∃ zs, IsRow .i32 W a8 len8 cap8 zs := by
    obtain ⟨fuel, hf⟩ := h8
    rcases open_ints Try.underlying29 Try.underlying21 (by kernel_rfl) hf with ⟨hcs, _⟩ | ⟨x, l, c, zs, hcs, _, hl, hm, hz, _, hcell, hwz⟩
    · simp [Value.cells] at hcs
      obtain ⟨rfl, rfl, rfl⟩ := hcs
      exact ⟨[], .inl ⟨rfl, rfl, rfl, rfl⟩⟩
    · simp [Value.cells] at hcs
      obtain ⟨rfl, rfl, rfl⟩ := hcs
      exact ⟨zs, .inr ⟨_, rfl, hl, hm, by simpa using hz, hcell, hwz⟩⟩
  obtain ⟨a9, len9, cap9, rfl⟩ := okWide_slice Try.underlying29 (hval 9 29 v9 rfl rfl)
  have k9 := h9
  have lt9 : ∀ x ∈ p9, x.block < W.heap.size := by obtain ⟨m, hm⟩ := k9; exact DataW.trod_lt m _ _ _ hm
  obtain ⟨z9, w9⟩ : ∃ zs, IsRow .i32 W a9 len9 cap9 zs := by
    obtain ⟨fuel, hf⟩ := h9
    rcases open_ints Try.underlying29 Try.underlying21 (by kernel_rfl) hf with ⟨hcs, _⟩ | ⟨x, l, c, zs, hcs, _, hl, hm, hz, _, hcell, hwz⟩
    · simp [Value.cells] at hcs
      obtain ⟨rfl, rfl, rfl⟩ := hcs
      exact ⟨[], .inl ⟨rfl, rfl, rfl, rfl⟩⟩
    · simp [Value.cells] at hcs
      obtain ⟨rfl, rfl, rfl⟩ := hcs
      exact ⟨zs, .inr ⟨_, rfl, hl, hm, by simpa using hz, hcell, hwz⟩⟩
  obtain ⟨a10, len10, cap10, rfl⟩ := okWide_slice Try.underlying29 (hval 10 29 v10 rfl rfl)
  have k10 := h10
  have lt10 : ∀ x ∈ p10, x.block < W.heap.size := by obtain ⟨m, hm⟩ := k10; exact DataW.trod_lt m _ _ _ hm
  obtain ⟨z10, w10⟩ : ∃ zs, IsRow .i32 W a10 len10 cap10 zs := by
    obtain ⟨fuel, hf⟩ := h10
    rcases open_ints Try.underlying29 Try.underlying21 (by kernel_rfl) hf with ⟨hcs, _⟩ | ⟨x, l, c, zs, hcs, _, hl, hm, hz, _, hcell, hwz⟩
    · simp [Value.cells] at hcs
      obtain ⟨rfl, rfl, rfl⟩ := hcs
      exact ⟨[], .inl ⟨rfl, rfl, rfl, rfl⟩⟩
    · simp [Value.cells] at hcs
      obtain ⟨rfl, rfl, rfl⟩ := hcs
      exact ⟨zs, .inr ⟨_, rfl, hl, hm, by simpa using hz, hcell, hwz⟩⟩
  obtain ⟨a11, len11, cap11, rfl⟩ := okWide_slice Try.underlying29 (hval 11 29 v11 rfl rfl)
  have k11 := h11
  have lt11 : ∀ x ∈ p11, x.block < W.heap.size := by obtain ⟨m, hm⟩ := k11; exact DataW.trod_lt m _ _ _ hm
  obtain ⟨z11, w11⟩ : ∃ zs, IsRow .i32 W a11 len11 cap11 zs := by
    obtain ⟨fuel, hf⟩ := h11
    rcases open_ints Try.underlying29 Try.underlying21 (by kernel_rfl) hf with ⟨hcs, _⟩ | ⟨x, l, c, zs, hcs, _, hl, hm, hz, _, hcell, hwz⟩
    · simp [Value.cells] at hcs
      obtain ⟨rfl, rfl, rfl⟩ := hcs
      exact ⟨[], .inl ⟨rfl, rfl, rfl, rfl⟩⟩
    · simp [Value.cells] at hcs
      obtain ⟨rfl, rfl, rfl⟩ := hcs
      exact ⟨zs, .inr ⟨_, rfl, hl, hm, by simpa using hz, hcell, hwz⟩⟩
  clear hA0 hval0
  refine (walk pz wp a1 len1 cap1 ms ss a2 len2 cap2 z2 a3 len3 cap3 z3 a4 len4 cap4 z4 a5 len5 cap5 z5 a6 len6 cap6 z6 a7 len7 cap7 z7 a8 len8 cap8 z8 a9 len9 cap9 z9 a10 len10 cap10 z10 a11 len11 cap11 z11 W w1 w2 w3 w4 w5 w6 w7 w8 w9 w10 w11).mono fun e W' ⟨he, bel⟩ => ?_
  subst he
  exact ⟨_, rfl, _, _, _, [], _, [], hW', trodAll_mk1 (shut_bool Try.underlying4 _), (trodAll_cons_mk (shut_int Try.underlying21 wp) (trodAll_cons_mk (Below.trod laidOut (by kernel_rfl) (of_decide_eq_true (by kernel_rfl)) k1 bel lt1) (trodAll_cons_mk (Below.trod laidOut (by kernel_rfl) (of_decide_eq_true (by kernel_rfl)) k2 bel lt2) (trodAll_cons_mk (Below.trod laidOut (by kernel_rfl) (of_decide_eq_true (by kernel_rfl)) k3 bel lt3) (trodAll_cons_mk (Below.trod laidOut (by kernel_rfl) (of_decide_eq_true (by kernel_rfl)) k4 bel lt4) (trodAll_cons_mk (Below.trod laidOut (by kernel_rfl) (of_decide_eq_true (by kernel_rfl)) k5 bel lt5) (trodAll_cons_mk (Below.trod laidOut (by kernel_rfl) (of_decide_eq_true (by kernel_rfl)) k6 bel lt6) (trodAll_cons_mk (Below.trod laidOut (by kernel_rfl) (of_decide_eq_true (by kernel_rfl)) k7 bel lt7) (trodAll_cons_mk (Below.trod laidOut (by kernel_rfl) (of_decide_eq_true (by kernel_rfl)) k8 bel lt8) (trodAll_cons_mk (Below.trod laidOut (by kernel_rfl) (of_decide_eq_true (by kernel_rfl)) k9 bel lt9) (trodAll_cons_mk (Below.trod laidOut (by kernel_rfl) (of_decide_eq_true (by kernel_rfl)) k10 bel lt10) (trodAll_cons_mk (Below.trod laidOut (by kernel_rfl) (of_decide_eq_true (by kernel_rfl)) k11 bel lt11) trodAll_mk0)))))))))))), rfl, bel.frame _, fun h => by cases h⟩

theorem over : Rows.fnMarkEarlyMatchesLaterDeliveryModelRow.holds Try.pinned (OpenSpec.ofChange Rows.fnMarkEarlyMatchesLaterDeliveryModelSpec) :=
  OpenClaim.holds_of_wide 5 Try.f5 rfl rfl rfl rfl rfl rfl rfl ⟨rfl, rfl, rfl, rfl, rfl⟩ rfl rfl rfl rfl rfl (by kernel_rfl) Try.func5 (by kernel_rfl)
    (of_decide_eq_true (by kernel_rfl)) (by unfold Func.isWrapper; first | (rw [if_pos (by decide +kernel)]; kernel_rfl) | (rw [if_neg (by decide +kernel)]; exact ⟨rfl, rfl⟩))
    (fun os started H enc _ => lifted os started H enc)

/-- ████ THE STATEMENT ████ -/
theorem proved : Rows.FnMarkEarlyMatchesLaterDeliveryModelSaid := over
#print axioms proved
end Go.Proofs.Qxb6603398a.fnMarkEarlyMatchesLaterDeliveryModel
