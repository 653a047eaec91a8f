/-
  THE PLAIN LAW of 'FnCountingSetReadKeepsWindow': what read makes of the runs is what clip makes of them. No Go in sight.
-/
import Derived.Test.Qxb6602619aPlain
namespace Go.Proofs.Qxb6602619a.Plain

/-- The runs cut, one by one. -/
def clipQ (lo hi : Int) (qs : List (Int × Int)) : List (Int × Int) := qs.flatMap fun q => piece lo hi q.1 q.2

theorem clipQ_append (lo hi : Int) (a b : List (Int × Int)) : clipQ lo hi (a ++ b) = clipQ lo hi a ++ clipQ lo hi b := by simp [clipQ]

theorem clip_take (lo hi : Int) (qs : List (Int × Int)) (k : Nat) (hk : k ≤ qs.length) : clip lo hi (qs.map (·.1)) (qs.map (·.2)) k = clipQ lo hi (qs.take k) := by
  induction k with
  | zero => simp [clip, clipQ]
  | succ k ih =>
    rw [clip, ih (by omega), List.take_succ_eq_append_getElem (by omega), clipQ_append]
    simp [clipQ, List.getD, show k < qs.length by omega]
theorem clip_eq (lo hi : Int) (qs : List (Int × Int)) : clip lo hi (qs.map (·.1)) (qs.map (·.2)) qs.length = clipQ lo hi qs := by
  rw [clip_take lo hi qs _ (Nat.le_refl _), List.take_length]

/-- Runs in rising order, none empty. -/
def Chain (qs : List (Int × Int)) : Prop := (∀ q ∈ qs, q.1 ≤ q.2) ∧ qs.Pairwise (fun a b => a.2 < b.1)

theorem WF.far {fs ls : List Int} {h n : Nat} (w : WF fs ls h n) : ∀ j i, h ≤ i → i < j → j < n → ls.getD i 0 < fs.getD j 0
  | 0, _, _, hij, _ => absurd hij (by omega)
  | j + 1, i, hi, hij, hj => by
    have h1 := (w (j + 1) (by omega) hj).2 (by omega)
    simp only [Nat.add_sub_cancel] at h1
    by_cases e : i = j
    · rw [e]; exact h1
    · have h2 := WF.far w j i hi (by omega) (by omega)
      have h3 := (w j (by omega) (by omega)).1
      omega

theorem WF.chain {ps : List (Int × Int)} {h : Nat} (w : WF (ps.map (·.1)) (ps.map (·.2)) h ps.length) : Chain (ps.drop h) := by
  have g1 : ∀ i, i < ps.length → (ps.map (·.1)).getD i 0 = (ps.getD i (0, 0)).1 := fun i hi => by simp [List.getD, hi]
  have g2 : ∀ i, i < ps.length → (ps.map (·.2)).getD i 0 = (ps.getD i (0, 0)).2 := fun i hi => by simp [List.getD, hi]
  constructor
  · intro q hq
    obtain ⟨i, hi, rfl⟩ := List.getElem_of_mem hq
    simp only [List.length_drop] at hi
    have h1 := (w (h + i) (by omega) (by omega)).1
    rw [g1 _ (by omega), g2 _ (by omega)] at h1
    simpa [List.getD, show h + i < ps.length by omega] using h1
  · rw [List.pairwise_iff_getElem]
    intro i j hi hj hij
    simp only [List.length_drop] at hi hj
    have h1 := w.far (h + j) (h + i) (by omega) (by omega) (by omega)
    rw [g1 _ (by omega), g2 _ (by omega)] at h1
    simpa [List.getD, show h + i < ps.length by omega, show h + j < ps.length by omega] using h1

/-- What the law asks of the answer. -/
structure WinOk (ps : List (Int × Int)) (h : Nat) (lo hi : Int) (ps' : List (Int × Int)) (h' : Nat) : Prop where
  len : ps'.length ≤ ps.length
  head : h' ≤ ps'.length
  live : ps'.drop h' = clipQ lo hi (ps.drop h)
  old : ∀ i, i < h' → ps'.getD i (0, 0) = ps.getD i (0, 0)

theorem good_done (ps : List (Int × Int)) (lo hi : Int) : WinOk ps ps.length lo hi ps ps.length :=
  ⟨Nat.le_refl _, Nat.le_refl _, by simp [clipQ], fun _ _ => rfl⟩

theorem piece_in {lo hi f l : Int} (h1 : lo ≤ f) (h2 : l ≤ hi) (h3 : f ≤ l) : piece lo hi f l = [(f, l)] :=
  piece_yes (by unfold cutLo; rw [if_neg (by omega)]) (by unfold cutHi; rw [if_neg (by omega)]) h3

theorem clipQ_all {lo hi : Int} {qs : List (Int × Int)} (h : ∀ q ∈ qs, lo ≤ q.1 ∧ q.2 ≤ hi ∧ q.1 ≤ q.2) : clipQ lo hi qs = qs := by
  induction qs with
  | nil => rfl
  | cons q qs ih =>
    have h1 := h q (by simp)
    rw [show q :: qs = [q] ++ qs from rfl, clipQ_append, ih fun r hr => h r (by simp [hr])]
    simp [clipQ, piece_in h1.1 h1.2.1 h1.2.2]

theorem clipQ_none {lo hi : Int} {qs : List (Int × Int)} (h : ∀ q ∈ qs, q.2 < lo) : clipQ lo hi qs = [] := by
  unfold clipQ
  rw [List.flatMap_eq_nil_iff]
  intro q hq
  have h1 := h q hq
  refine piece_no rfl rfl ?_
  unfold cutLo cutHi
  split <;> split <;> omega

theorem good_all {ps : List (Int × Int)} {h : Nat} {lo hi : Int} (hh : h ≤ ps.length) (hc : Chain (ps.drop h)) (hr : ∀ q ∈ ps, lo ≤ q.1 ∧ q.2 ≤ hi) : WinOk ps h lo hi ps h :=
  ⟨Nat.le_refl _, hh, (clipQ_all fun q hq => ⟨(hr q (List.mem_of_mem_drop hq)).1, (hr q (List.mem_of_mem_drop hq)).2, hc.1 q hq⟩).symm, fun _ _ => rfl⟩

theorem drop_snoc {ps : List (Int × Int)} {h : Nat} (hh : h < ps.length) : ∃ init, ps.drop h = init ++ [ps.getD (ps.length - 1) (0, 0)] := by
  refine ⟨(ps.drop h).take (ps.length - 1 - h), ?_⟩
  have e1 : ps.drop h = (ps.drop h).take (ps.length - 1 - h) ++ (ps.drop h).drop (ps.length - 1 - h) := (List.take_append_drop _ _).symm
  have e2 : (ps.drop h).drop (ps.length - 1 - h) = [ps.getD (ps.length - 1) (0, 0)] := by
    rw [List.drop_drop, show h + (ps.length - 1 - h) = ps.length - 1 by omega, List.drop_eq_getElem_cons (by omega), List.drop_of_length_le (by omega)]
    simp [List.getD, show ps.length - 1 < ps.length by omega]
  rw [e2] at e1
  exact e1

theorem good_none {ps : List (Int × Int)} {h : Nat} {index : Int} (hh : h < ps.length) (hc : Chain (ps.drop h)) (hle : (ps.getD (ps.length - 1) (0, 0)).2 ≤ index) (hne : (ps.getD (ps.length - 1) (0, 0)).2 ≠ index) : WinOk ps h index index [] 0 := by
  refine ⟨Nat.zero_le _, Nat.le_refl _, ?_, fun i hi => absurd hi (by omega)⟩
  obtain ⟨init, e⟩ := drop_snoc hh
  rw [e] at hc ⊢
  obtain ⟨c1, c2⟩ := hc
  rw [List.pairwise_append] at c2
  symm
  refine clipQ_none fun q hq => ?_
  rcases List.mem_append.1 hq with hq | hq
  · have h1 := c2.2.2 q hq (ps.getD (ps.length - 1) (0, 0)) (by simp)
    have h2 := c1 (ps.getD (ps.length - 1) (0, 0)) (by simp)
    omega
  · simp only [List.mem_singleton] at hq
    rw [hq]; omega

theorem good_one {ps : List (Int × Int)} {h : Nat} {index : Int} (hh : h < ps.length) (hc : Chain (ps.drop h)) (he : (ps.getD (ps.length - 1) (0, 0)).2 = index) : WinOk ps h index index [(index, index)] 0 := by
  refine ⟨by simp; omega, Nat.zero_le _, ?_, fun i hi => absurd hi (by omega)⟩
  obtain ⟨init, e⟩ := drop_snoc hh
  rw [e] at hc ⊢
  obtain ⟨c1, c2⟩ := hc
  rw [List.pairwise_append] at c2
  have h2 := c1 (ps.getD (ps.length - 1) (0, 0)) (by simp)
  rw [clipQ_append, clipQ_none (qs := init)]
  · simp only [clipQ, List.flatMap_cons, List.flatMap_nil, List.append_nil, List.nil_append, List.drop_zero]
    rw [he]
    rw [he] at h2
    refine (piece_yes (f' := index) (l' := index) ?_ ?_ (Int.le_refl _)).symm
    · unfold cutLo; split <;> omega
    · unfold cutHi; split <;> omega
  · intro q hq
    have h1 := c2.2.2 q hq (ps.getD (ps.length - 1) (0, 0)) (by simp)
    omega

theorem good_most {ps : List (Int × Int)} {h k : Nat} {lo hi : Int} (hk0 : h ≤ k) (hk : k ≤ ps.length) (hc : Chain (ps.drop h)) (hr : ∀ q ∈ ps, q.2 ≤ hi)
    (hs : ∀ i, h ≤ i → i < k → (ps.getD i (0, 0)).2 < lo) {ps' : List (Int × Int)}
    (hp : (k = ps.length ∧ ps' = ps) ∨ (k < ps.length ∧ ¬ (ps.getD k (0, 0)).2 < lo ∧ ps' = ps.set k (max (ps.getD k (0, 0)).1 lo, (ps.getD k (0, 0)).2))) : WinOk ps h lo hi ps' k := by
  have e1 : ps.drop h = (ps.drop h).take (k - h) ++ ps.drop k := by
    rw [show ps.drop k = (ps.drop h).drop (k - h) by rw [List.drop_drop]; congr 1; omega, List.take_append_drop]
  have hA : clipQ lo hi ((ps.drop h).take (k - h)) = [] := by
    refine clipQ_none fun q hq => ?_
    obtain ⟨i, hi', rfl⟩ := List.getElem_of_mem hq
    simp only [List.length_take, List.length_drop] at hi'
    have h1 := hs (h + i) (by omega) (by omega)
    simpa [List.getD, show h + i < ps.length by omega] using h1
  have hcl : clipQ lo hi (ps.drop h) = clipQ lo hi (ps.drop k) := by
    rw [e1, clipQ_append, hA, List.nil_append]
  rcases hp with ⟨rfl, rfl⟩ | ⟨hlt, hnl, rfl⟩
  · exact ⟨Nat.le_refl _, Nat.le_refl _, by rw [hcl]; simp [clipQ], fun _ _ => rfl⟩
  · refine ⟨by simp, by simp; omega, ?_, fun i hi' => by simp [List.getD, show ¬ k = i by omega]⟩
    have e2 : ps.drop k = ps[k] :: ps.drop (k + 1) := List.drop_eq_getElem_cons hlt
    have e3 : ps.getD k (0, 0) = ps[k] := by simp [List.getD, hlt]
    rw [hcl, e2, e3]
    rw [e3] at hnl
    rw [e1] at hc
    obtain ⟨c1, c2⟩ := hc
    rw [List.pairwise_append] at c2
    have c3 := c2.2.1
    rw [e2, List.pairwise_cons] at c3
    have ck := c1 ps[k] (List.mem_append_right _ (by rw [e2]; exact List.mem_cons_self))
    have hr1 := hr ps[k] (by simp)
    rw [show (ps.set k (max ps[k].1 lo, ps[k].2)).drop k = (max ps[k].1 lo, ps[k].2) :: ps.drop (k + 1) by
      rw [List.drop_set, if_neg (by omega), Nat.sub_self, e2]; rfl]
    rw [show ps[k] :: ps.drop (k + 1) = [ps[k]] ++ ps.drop (k + 1) from rfl, clipQ_append, clipQ_all (qs := ps.drop (k + 1))]
    · simp only [clipQ, List.flatMap_cons, List.flatMap_nil, List.append_nil]
      rw [piece_yes (f' := max ps[k].1 lo) (l' := ps[k].2) ?_ ?_ (by omega)]
      · rfl
      · unfold cutLo; split <;> omega
      · unfold cutHi; rw [if_neg (by omega)]
    · intro q hq
      have h1 := c3.1 q hq
      exact ⟨by omega, hr q (List.mem_of_mem_drop hq), c1 q (List.mem_append_right _ (by rw [e2]; exact List.mem_cons_of_mem _ hq))⟩

end Go.Proofs.Qxb6602619a.Plain
