/-
  THE PLAIN SIDE of FnMarkEarlyMatchesLaterDeliveryModel: lists of numbers, no Go.
-/
namespace Go.Proofs.Qxb6603398a.Early
set_option linter.unusedVariables false

/-- What the law is handed, as lists. -/
structure Lists where
  p : Nat
  msgs : List Int
  sends : List Bool
  sender : List Int
  seen : List Int
  scope : List Int
  stream : List Int
  seq : List Int
  row : List Int
  ss : List Int
  slot : List Int
  width : List Int
  rows : List Int

namespace Lists
def msgN (L : Lists) (i : Nat) : Nat := (L.msgs.getD i 0).toNat
def scN (L : Lists) (b : Nat) : Nat := (L.scope.getD b 0).toNat
def wdN (L : Lists) (b : Nat) : Nat := (L.width.getD (L.scN b) 0).toNat
def rowN (L : Lists) (b : Nat) : Nat := (L.row.getD b 0).toNat
def stN (L : Lists) (b : Nat) : Nat := (L.stream.getD b 0).toNat
def slN (L : Lists) (s : Nat) : Nat := (L.slot.getD s 0).toNat
end Lists
open Lists

/-- All that fitsMarkEarly asks of a message that is listed. -/
structure Full (L : Lists) (b : Nat) : Prop where
  l4 : b < L.scope.length
  l5 : b < L.stream.length
  l6 : b < L.seq.length
  l7 : b < L.row.length
  esc : L.scope.getD b 0 = (L.scN b : Int)
  lsc : L.scN b < L.width.length
  ewd : L.width.getD (L.scN b) 0 = (L.wdN b : Int)
  erow : L.row.getD b 0 = (L.rowN b : Int)
  lrow : L.rowN b + L.wdN b ≤ L.rows.length
  seq1 : 1 ≤ L.seq.getD b 0
  est : L.stream.getD b 0 = (L.stN b : Int)
  lst : L.stN b < L.ss.length
  slot : ∀ s : Nat, s < L.width.length → L.ss.getD (L.stN b) 0 = (s : Int) → L.stN b < L.slot.length ∧ L.slot.getD (L.stN b) 0 = (L.slN (L.stN b) : Int) ∧ (L.slN (L.stN b) : Int) < L.width.getD s 0

/-- What fitsMarkEarly asks of event i. -/
def Fit (L : Lists) (i : Nat) : Prop :=
  L.sends.getD i false = true ∨ (L.msgs.getD i 0 = (L.msgN i : Int) ∧ L.msgN i < L.sender.length ∧ (L.sender.getD (L.msgN i) 0 < 0 ∨ (L.msgN i < L.seen.length ∧ (L.seen.getD (L.msgN i) 0 = (L.p : Int) + 1 ∨ Full L (L.msgN i)))))

/-- Is event i a delivery that counts? -/
def keep (L : Lists) (i : Nat) : Bool := !(L.sends.getD i false) && (decide (0 ≤ L.sender.getD (L.msgN i) 0) && !decide (L.seen.getD (L.msgN i) 0 = (L.p : Int) + 1))

/-- 'first' behind i events. -/
def firstTo (L : Lists) : Nat → List Nat
  | 0 => []
  | i + 1 => if keep L i = true ∧ L.msgN i ∉ firstTo L i then firstTo L i ++ [L.msgN i] else firstTo L i

theorem ex_cons {p : Nat → Prop} {d : Nat} {D : List Nat} : (∃ x ∈ d :: D, p x) ↔ (p d ∨ ∃ x ∈ D, p x) := by simp [List.mem_cons, or_and_right, exists_or]
theorem firstTo_len (L : Lists) (i : Nat) : (firstTo L i).length ≤ i := by
  induction i with
  | zero => simp [firstTo]
  | succ i ih =>
    rw [firstTo]
    split
    · rw [List.length_append, List.length_singleton]; omega
    · omega

/-- What holds of a listed message. -/
structure Listed (L : Lists) (b : Nat) : Prop where
  l2 : b < L.sender.length
  l3 : b < L.seen.length
  full : Full L b

theorem listed_keep {L : Lists} {i : Nat} (hf : Fit L i) (hk : keep L i = true) : L.sends.getD i false = false ∧ L.msgs.getD i 0 = (L.msgN i : Int) ∧ Listed L (L.msgN i) := by
  simp only [keep, Bool.and_eq_true, Bool.not_eq_true', decide_eq_true_eq, decide_eq_false_iff_not] at hk
  obtain ⟨h1, h2, h3⟩ := hk
  rcases hf with h | ⟨h4, h5, h6⟩
  · rw [h1] at h; cases h
  · rcases h6 with h6 | ⟨h6, h7⟩
    · omega
    · rcases h7 with h7 | h7
      · exact absurd h7 h3
      · exact ⟨h1, h4, h5, h6, h7⟩

theorem listed_first {L : Lists} {n : Nat} (hf : ∀ i, i < n → Fit L i) : ∀ b ∈ firstTo L n, Listed L b := by
  induction n with
  | zero => intro b hb; simp [firstTo] at hb
  | succ n ih =>
    intro b hb
    rw [firstTo] at hb
    split at hb
    · rename_i h
      rw [List.mem_append] at hb
      rcases hb with hb | hb
      · exact ih (fun i hi => hf i (by omega)) b hb
      · simp only [List.mem_singleton] at hb
        subst hb
        exact (listed_keep (hf n (by omega)) h.1).2.2
    · exact ih (fun i hi => hf i (by omega)) b hb

/-- 'seenC' behind i events. -/
def SeenIs (L : Lists) (F : List Nat) (M : List Int) : Prop :=
  M.length = L.seen.length ∧ ∀ m, m < L.seen.length → M.getD m 0 = if m ∈ F then (L.p : Int) + 1 else L.seen.getD m 0

theorem SeenIs.start (L : Lists) : SeenIs L [] L.seen := ⟨rfl, fun m _ => by simp⟩
theorem getD_set (M : List Int) (b m : Nat) (x : Int) (hb : b < M.length) : (M.set b x).getD m 0 = if m = b then x else M.getD m 0 := by
  by_cases e : m = b
  · subst e; simp [List.getD, hb]
  · simp [List.getD, e, show ¬ b = m by omega]
theorem SeenIs.more {L : Lists} {F : List Nat} {M : List Int} {b : Nat} (h : SeenIs L F M) (hb : b < L.seen.length) : SeenIs L (F ++ [b]) (M.set b ((L.p : Int) + 1)) := by
  refine ⟨by simp [h.1], fun m hm => ?_⟩
  rw [getD_set _ _ _ _ (by rw [h.1]; exact hb)]
  by_cases e : m = b
  · rw [if_pos e, if_pos (by simp [e])]
  · rw [if_neg e, h.2 m hm]
    simp only [List.mem_append, List.mem_singleton, e, or_false]
/-- The test of markEarly's first loop is the law's. -/
theorem SeenIs.test {L : Lists} {F : List Nat} {M : List Int} {b : Nat} (h : SeenIs L F M) (hb : b < L.seen.length) : M.getD b 0 = (L.p : Int) + 1 ↔ (L.seen.getD b 0 = (L.p : Int) + 1 ∨ b ∈ F) := by
  rw [h.2 b hb]
  by_cases e : b ∈ F
  · simp [e]
  · simp [e]

/-- d, later than b, makes b early. -/
def hit (L : Lists) (b d : Nat) : Bool := decide (L.ss.getD (L.stN d) 0 = L.scope.getD b 0 ∧ L.seq.getD d 0 ≤ L.rows.getD (L.rowN b + L.slN (L.stN d)) 0)

/-- The lowest number of stream s among D, or 0. -/
def minS (L : Lists) (s : Nat) : List Nat → Int
  | [] => 0
  | d :: D => if L.stN d = s then (if minS L s D = 0 then L.seq.getD d 0 else if L.seq.getD d 0 < minS L s D then L.seq.getD d 0 else minS L s D) else minS L s D
/-- The streams met in D, from its end. -/
def strS (L : Lists) : List Nat → List Nat
  | [] => []
  | d :: D => if minS L (L.stN d) D = 0 then strS L D ++ [L.stN d] else strS L D

theorem strS_len (L : Lists) : ∀ D, (strS L D).length ≤ D.length
  | [] => by simp [strS]
  | d :: D => by
    have := strS_len L D
    rw [strS]
    split
    · rw [List.length_append, List.length_singleton, List.length_cons]; omega
    · rw [List.length_cons]; omega

theorem minS_pos {L : Lists} {s : Nat} : ∀ {D : List Nat}, (∀ d ∈ D, 1 ≤ L.seq.getD d 0) → 0 ≤ minS L s D ∧ (minS L s D = 0 ↔ ∀ d ∈ D, L.stN d ≠ s)
  | [], _ => by simp [minS]
  | d :: D, h => by
    obtain ⟨h1, h2⟩ := minS_pos (s := s) (D := D) (fun x hx => h x (by simp [hx]))
    have hd := h d (by simp)
    rw [minS]
    by_cases e : L.stN d = s
    · simp only [e, if_true]
      refine ⟨?_, ?_⟩
      · split
        · omega
        · split <;> omega
      · constructor
        · intro h3
          exfalso
          split at h3
          · omega
          · split at h3 <;> omega
        · intro h3
          exact absurd e (h3 d (by simp))
    · simp only [e, if_false]
      refine ⟨h1, h2.trans ⟨fun h3 x hx => ?_, fun h3 x hx => h3 x (by simp [hx])⟩⟩
      rcases List.mem_cons.1 hx with rfl | hx
      · exact e
      · exact h3 x hx

theorem strS_mem {L : Lists} {s : Nat} : ∀ {D : List Nat}, (∀ d ∈ D, 1 ≤ L.seq.getD d 0) → (s ∈ strS L D ↔ ∃ d ∈ D, L.stN d = s)
  | [], _ => by simp [strS]
  | d :: D, h => by
    have ih := strS_mem (s := s) (D := D) (fun x hx => h x (by simp [hx]))
    have hm := (minS_pos (s := L.stN d) (D := D) (fun x hx => h x (by simp [hx]))).2
    rw [strS]
    split
    · simp only [List.mem_append, List.mem_singleton, ih, ex_cons]
      constructor
      · rintro (h1 | h1)
        · exact .inr h1
        · exact .inl h1.symm
      · rintro (h1 | h1)
        · exact .inr h1.symm
        · exact .inl h1
    · rename_i h0
      rw [ih, ex_cons]
      constructor
      · exact .inr
      · rintro (rfl | h1)
        · rw [hm] at h0
          have : ∃ x ∈ D, L.stN x = L.stN d := by
            apply Classical.byContradiction
            intro hc
            exact h0 (fun x hx hh => hc ⟨x, hx, hh⟩)
          exact this
        · exact h1

theorem minS_le {L : Lists} {s : Nat} {x : Int} : ∀ {D : List Nat}, (∀ d ∈ D, 1 ≤ L.seq.getD d 0) → (∃ d ∈ D, L.stN d = s) → (minS L s D ≤ x ↔ ∃ d ∈ D, L.stN d = s ∧ L.seq.getD d 0 ≤ x)
  | [], _, h => by obtain ⟨d, hd, _⟩ := h; simp at hd
  | d :: D, h, hs => by
    have hD : ∀ y ∈ D, 1 ≤ L.seq.getD y 0 := fun y hy => h y (by simp [hy])
    have hp := minS_pos (s := s) (D := D) hD
    rw [minS, ex_cons]
    by_cases e : L.stN d = s
    · simp only [e, if_true, true_and]
      by_cases h0 : minS L s D = 0
      · simp only [h0, if_true]
        constructor
        · exact .inl
        · rintro (h1 | ⟨y, hy, h1, _⟩)
          · exact h1
          · exact absurd h1 (hp.2.1 h0 y hy)
      · simp only [h0, if_false]
        have hex : ∃ y ∈ D, L.stN y = s := by
          apply Classical.byContradiction
          intro hc
          exact h0 (hp.2.2 (fun y hy hh => hc ⟨y, hy, hh⟩))
        have ih := minS_le (s := s) (x := x) (D := D) hD hex
        rw [← ih]
        split <;> omega
    · simp only [e, if_false, false_and, false_or]
      rw [ex_cons] at hs
      exact minS_le hD (hs.resolve_left e)

/-- What markEarly asks of the streams is what the law asks of the later messages. -/
theorem early_iff {L : Lists} {b : Nat} {D : List Nat} (h : ∀ d ∈ D, 1 ≤ L.seq.getD d 0) :
    (∃ s ∈ strS L D, L.ss.getD s 0 = L.scope.getD b 0 ∧ minS L s D ≤ L.rows.getD (L.rowN b + L.slN s) 0) ↔ D.any (hit L b) = true := by
  rw [List.any_eq_true]
  constructor
  · rintro ⟨s, hs, h1, h2⟩
    rw [minS_le h ((strS_mem h).1 hs)] at h2
    obtain ⟨d, hd, rfl, h3⟩ := h2
    exact ⟨d, hd, by simp only [hit, decide_eq_true_eq]; exact ⟨h1, h3⟩⟩
  · rintro ⟨d, hd, h1⟩
    simp only [hit, decide_eq_true_eq] at h1
    have hs : L.stN d ∈ strS L D := (strS_mem h).2 ⟨d, hd, rfl⟩
    exact ⟨L.stN d, hs, h1.1, (minS_le h ((strS_mem h).1 hs)).2 ⟨d, hd, rfl, h1.2⟩⟩

/-- minLater, behind the messages D. -/
def MinIs (L : Lists) (D : List Nat) (M : List Int) : Prop := M.length = L.ss.length ∧ ∀ s, s < L.ss.length → M.getD s 0 = minS L s D
theorem MinIs.start (L : Lists) : MinIs L [] (List.replicate L.ss.length 0) := ⟨by simp, fun s hs => by simp [minS, List.getD, hs]⟩
theorem MinIs.zero {L : Lists} {d : Nat} {D : List Nat} {M : List Int} (h : MinIs L D M) (hd : L.stN d < L.ss.length) (h0 : minS L (L.stN d) D = 0) : MinIs L (d :: D) (M.set (L.stN d) (L.seq.getD d 0)) := by
  refine ⟨by simp [h.1], fun s hs => ?_⟩
  rw [getD_set _ _ _ _ (by rw [h.1]; exact hd), minS]
  by_cases e : s = L.stN d
  · subst e; simp [h0]
  · rw [if_neg e, if_neg (fun x => e x.symm)]; exact h.2 s hs
theorem MinIs.less {L : Lists} {d : Nat} {D : List Nat} {M : List Int} (h : MinIs L D M) (hd : L.stN d < L.ss.length) (h0 : minS L (L.stN d) D ≠ 0) (h1 : L.seq.getD d 0 < minS L (L.stN d) D) : MinIs L (d :: D) (M.set (L.stN d) (L.seq.getD d 0)) := by
  refine ⟨by simp [h.1], fun s hs => ?_⟩
  rw [getD_set _ _ _ _ (by rw [h.1]; exact hd), minS]
  by_cases e : s = L.stN d
  · subst e; rw [if_pos rfl, if_pos rfl, if_neg h0, if_pos h1]
  · rw [if_neg e, if_neg (fun x => e x.symm)]; exact h.2 s hs
theorem MinIs.stay {L : Lists} {d : Nat} {D : List Nat} {M : List Int} (h : MinIs L D M) (h0 : minS L (L.stN d) D ≠ 0) (h1 : ¬ L.seq.getD d 0 < minS L (L.stN d) D) : MinIs L (d :: D) M := by
  refine ⟨h.1, fun s hs => ?_⟩
  rw [minS, h.2 s hs]
  by_cases e : L.stN d = s
  · subst e; rw [if_pos rfl, if_neg h0, if_neg h1]
  · rw [if_neg e]

/-- minLater, while it is cleaned. -/
def CleanIs (L : Lists) (D : List Nat) (k : Nat) (M : List Int) : Prop := M.length = L.ss.length ∧ ∀ s, s < L.ss.length → M.getD s 0 = if s ∈ (strS L D).take k then 0 else minS L s D
theorem CleanIs.start {L : Lists} {D : List Nat} {M : List Int} (h : MinIs L D M) : CleanIs L D 0 M := ⟨h.1, fun s hs => by rw [h.2 s hs]; simp⟩
theorem CleanIs.more {L : Lists} {D : List Nat} {k : Nat} {M : List Int} (h : CleanIs L D k M) (hk : k < (strS L D).length) (hl : (strS L D)[k] < L.ss.length) : CleanIs L D (k + 1) (M.set (strS L D)[k] 0) := by
  refine ⟨by simp [h.1], fun s hs => ?_⟩
  rw [getD_set _ _ _ _ (by rw [h.1]; exact hl)]
  have e1 : s ∈ (strS L D).take (k + 1) ↔ (s ∈ (strS L D).take k ∨ s = (strS L D)[k]) := by
    rw [List.take_succ_eq_append_getElem hk, List.mem_append, List.mem_singleton]
  by_cases e : s = (strS L D)[k]
  · rw [if_pos e, if_pos (e1.2 (.inr e))]
  · rw [if_neg e, h.2 s hs]
    simp only [e1, e, or_false]
theorem CleanIs.done {L : Lists} {D : List Nat} {M : List Int} (h : CleanIs L D (strS L D).length M) (hD : ∀ d ∈ D, 1 ≤ L.seq.getD d 0) : ∀ s, s < L.ss.length → M.getD s 0 = 0 := by
  intro s hs
  rw [h.2 s hs, List.take_length]
  split
  · rfl
  · rename_i h1
    rw [strS_mem hD] at h1
    exact (minS_pos hD).2.2 (fun d hd e => h1 ⟨d, hd, e⟩)

/-- The law's own 'early'. -/
def earlyOf (L : Lists) (F : List Nat) : List Bool := (List.range F.length).map fun i => (F.drop (i + 1)).any (hit L (F.getD i 0))
theorem earlyOf_len (L : Lists) (F : List Nat) : (earlyOf L F).length = F.length := by simp [earlyOf]
theorem earlyOf_get (L : Lists) (F : List Nat) (i : Nat) (hi : i < F.length) : (earlyOf L F).getD i false = (F.drop (i + 1)).any (hit L (F.getD i 0)) := by
  simp [earlyOf, List.getD, hi]
end Go.Proofs.Qxb6603398a.Early
