/-
  WHERE A ROW's ENTRIES COME FROM; the least upper bound as an invariant of the loops. No Go in sight.
-/
import Derived.Test.Qxb6603398aPlain
namespace Go.Proofs.Qxb6603398a.Plain

def mOf (L : Lists) (i : Nat) : Nat := (L.members.getD i 0).toNat
def sOf (L : Lists) (i : Nat) : Nat := (L.stream.getD (mOf L i) 0).toNat
def kOf (L : Lists) (i : Nat) : Nat := (L.slot.getD (sOf L i) 0).toNat
def fOf (L : Lists) (i : Nat) : Nat := (L.froms.getD (mOf L i) 0).toNat
def tOf (L : Lists) (i : Nat) : Nat := (L.tos.getD (mOf L i) 0).toNat
def pOf (L : Lists) (q : Nat) : Nat := (L.preds.getD q 0).toNat
def rOf (L : Lists) (q : Nat) : Nat := (L.row.getD (pOf L q) 0).toNat
/-- Predecessor q is a member. -/
def IsM (L : Lists) (q : Nat) : Prop := ((pOf L q : Nat) : Int) ∈ L.members

theorem MemOk.eqs {L : Lists} {wd : Nat} {sc : Int} {i m st k : Nat} (h : MemOk L wd sc i m st k) : mOf L i = m ∧ sOf L i = st ∧ kOf L i = k := by
  have e1 : mOf L i = m := by unfold mOf; rw [h.em]; exact Int.toNat_natCast m
  have e2 : sOf L i = st := by unfold sOf; rw [e1, h.est]; exact Int.toNat_natCast st
  have e3 : kOf L i = k := by unfold kOf; rw [e2, h.ek]; exact Int.toNat_natCast k
  exact ⟨e1, e2, e3⟩
theorem SpanOk.eqs {L : Lists} {wd : Nat} {sc : Int} {i m f t : Nat} (h : SpanOk L wd sc i m f t) : mOf L i = m ∧ fOf L i = f ∧ tOf L i = t := by
  have e1 : mOf L i = m := by unfold mOf; rw [h.em]; exact Int.toNat_natCast m
  exact ⟨e1, by unfold fOf; rw [e1, h.ef]; exact Int.toNat_natCast f, by unfold tOf; rw [e1, h.et]; exact Int.toNat_natCast t⟩
theorem PredOk.eq {L : Lists} {wd : Nat} {sc : Int} {q pr : Nat} (h : PredOk L wd sc q pr) : pOf L q = pr := by unfold pOf; rw [h.epr]; exact Int.toNat_natCast pr

/-- Member i, all its numbers. -/
theorem Fit.mem' {L : Lists} {wd sc m0 : Nat} (h : Fit L wd sc m0) {i : Nat} (hi : i < L.members.length) : MemOk L wd sc i (mOf L i) (sOf L i) (kOf L i) := by
  obtain ⟨m, st, k, hm⟩ := h.mem i hi
  obtain ⟨rfl, rfl, rfl⟩ := hm.eqs
  exact hm
theorem Fit.span' {L : Lists} {wd sc m0 : Nat} (h : Fit L wd sc m0) {i : Nat} (hi : i < L.members.length) : SpanOk L wd sc i (mOf L i) (fOf L i) (tOf L i) := by
  obtain ⟨m, f, t, hm⟩ := h.span i hi
  obtain ⟨rfl, rfl, rfl⟩ := hm.eqs
  exact hm
theorem Fit.pred' {L : Lists} {wd sc m0 : Nat} (h : Fit L wd sc m0) {i q : Nat} (hi : i < L.members.length) (h1 : fOf L i ≤ q) (h2 : q < tOf L i) : PredOk L wd sc q (pOf L q) := by
  obtain ⟨pr, hp⟩ := (h.span' hi).ok q h1 h2
  rw [← hp.eq] at hp
  exact hp
theorem PredOk.far {L : Lists} {wd : Nat} {sc : Int} {q : Nat} (h : PredOk L wd sc q (pOf L q)) (hn : ¬ IsM L q) : L.row.getD (pOf L q) 0 = (rOf L q : Int) ∧ rOf L q + wd ≤ L.rows.length := by
  rcases h.erow with h1 | ⟨r, h1, h2⟩
  · exact absurd h1 hn
  · have e : rOf L q = r := by unfold rOf; rw [h1]; exact Int.toNat_natCast r
    rw [e]
    exact ⟨h1, h2⟩

/-- D holds of every source up to member i. -/
def DoneTo (L : Lists) (wd : Nat) (D : Nat → Int → Prop) (i : Nat) : Prop := ∀ a, a < i → D (kOf L a) (L.seq.getD (mOf L a) 0) ∧ ∀ q, fOf L a ≤ q → q < tOf L a → ¬ IsM L q → ∀ j, j < wd → D j (L.rows.getD (rOf L q + j) 0)
/-- .. of the predecessors of one member from f up to q. -/
def PredTo (L : Lists) (wd : Nat) (D : Nat → Int → Prop) (f q : Nat) : Prop := ∀ p, f ≤ p → p < q → ¬ IsM L p → ∀ j, j < wd → D j (L.rows.getD (rOf L p + j) 0)

theorem DoneTo.mono {L : Lists} {wd : Nat} {D D' : Nat → Int → Prop} {i : Nat} (h : DoneTo L wd D i) (hd : ∀ k v, D k v → D' k v) : DoneTo L wd D' i :=
  fun a ha => ⟨hd _ _ (h a ha).1, fun q h1 h2 h3 j hj => hd _ _ ((h a ha).2 q h1 h2 h3 j hj)⟩
theorem PredTo.mono {L : Lists} {wd : Nat} {D D' : Nat → Int → Prop} {f q : Nat} (h : PredTo L wd D f q) (hd : ∀ k v, D k v → D' k v) : PredTo L wd D' f q :=
  fun p h1 h2 h3 j hj => hd _ _ (h p h1 h2 h3 j hj)
theorem DoneTo.zero (L : Lists) (wd : Nat) (D : Nat → Int → Prop) : DoneTo L wd D 0 := fun a ha => absurd ha (by omega)
theorem PredTo.zero (L : Lists) (wd : Nat) (D : Nat → Int → Prop) (f : Nat) : PredTo L wd D f f := fun p h1 h2 => absurd h2 (by omega)
theorem DoneTo.succ {L : Lists} {wd : Nat} {D : Nat → Int → Prop} {i : Nat} (h : DoneTo L wd D i) (h1 : D (kOf L i) (L.seq.getD (mOf L i) 0)) (h2 : PredTo L wd D (fOf L i) (tOf L i)) : DoneTo L wd D (i + 1) := by
  intro a ha
  by_cases e : a = i
  · subst e; exact ⟨h1, h2⟩
  · exact h a (by omega)
theorem PredTo.succ {L : Lists} {wd : Nat} {D : Nat → Int → Prop} {f q : Nat} (h : PredTo L wd D f q) (h1 : ¬ IsM L q → ∀ j, j < wd → D j (L.rows.getD (rOf L q + j) 0)) : PredTo L wd D f (q + 1) := by
  intro p hp hq
  by_cases e : p = q
  · subst e; exact h1
  · exact h p hp (by omega)

/-- v stands at k among the sources of all members. -/
def Source (L : Lists) (k : Nat) (v : Int) : Prop := (∃ i, i < L.members.length ∧ kOf L i = k ∧ v = L.seq.getD (mOf L i) 0) ∨ (∃ i q, i < L.members.length ∧ fOf L i ≤ q ∧ q < tOf L i ∧ ¬ IsM L q ∧ v = L.rows.getD (rOf L q + k) 0)

/-- The row so far: none below nought, each nought or a source. -/
structure Grew (L : Lists) (wd : Nat) (R : List Int) : Prop where
  len : R.length = wd
  pos : ∀ k, k < wd → 0 ≤ R.getD k 0
  src : ∀ k, k < wd → R.getD k 0 = 0 ∨ Source L k (R.getD k 0)
/-- v is at most what R holds at k. -/
def Le (R : List Int) (k : Nat) (v : Int) : Prop := v ≤ R.getD k 0

theorem Grew.zero (L : Lists) (wd : Nat) : Grew L wd (List.replicate wd 0) := by
  refine ⟨by simp, fun k hk => ?_, fun k hk => .inl ?_⟩ <;> simp [List.getD, hk]
theorem getD_set (R : List Int) (k j : Nat) (v : Int) (hk : k < R.length) : (R.set k v).getD j 0 = if j = k then v else R.getD j 0 := by
  by_cases e : j = k
  · subst e; simp [List.getD, hk]
  · simp [List.getD, e, show ¬ k = j by omega]
theorem Grew.up {L : Lists} {wd : Nat} {R : List Int} (h : Grew L wd R) {k : Nat} (hk : k < wd) {v : Int} (hv : Source L k v) : Grew L wd (R.set k (max (R.getD k 0) v)) := by
  have hl := h.len
  refine ⟨by simpa using hl, fun j hj => ?_, fun j hj => ?_⟩
  · rw [getD_set _ _ _ _ (by omega)]
    have h1 := h.pos k hk
    have h2 := h.pos j hj
    split <;> omega
  · rw [getD_set _ _ _ _ (by omega)]
    by_cases e : j = k
    · subst e
      rw [if_pos rfl]
      by_cases hle : v ≤ R.getD j 0
      · rw [show max (R.getD j 0) v = R.getD j 0 by omega]; exact h.src j hj
      · rw [show max (R.getD j 0) v = v by omega]; exact .inr hv
    · rw [if_neg e]; exact h.src j hj
theorem set_same (R : List Int) (k : Nat) : R.set k (max (R.getD k 0) (R.getD k 0)) = R := by
  apply List.ext_getElem?
  intro j
  by_cases h : k < R.length
  · by_cases e : k = j
    · subst e
      simp [List.getD, h]
    · simp [e]
  · rw [List.set_eq_of_length_le (by omega)]

theorem Grew.up_or {L : Lists} {wd : Nat} {R : List Int} (h : Grew L wd R) {k : Nat} (hk : k < wd) {v : Int} (hv : v = R.getD k 0 ∨ Source L k v) : Grew L wd (R.set k (max (R.getD k 0) v)) := by
  rcases hv with rfl | hv
  · rw [set_same]; exact h
  · exact h.up hk hv
theorem Le.up {R : List Int} {k : Nat} (hk : k < R.length) (v : Int) : ∀ j x, Le R j x → Le (R.set k (max (R.getD k 0) v)) j x := by
  intro j x h
  unfold Le at h ⊢
  rw [getD_set _ _ _ _ hk]
  by_cases e : j = k
  · subst e; rw [if_pos rfl]; omega
  · rw [if_neg e]; exact h
theorem Le.new {R : List Int} {k : Nat} (hk : k < R.length) (v : Int) : Le (R.set k (max (R.getD k 0) v)) k v := by
  unfold Le
  rw [getD_set _ _ _ _ hk, if_pos rfl]
  omega
/-- The row behind addComponent: the least upper bound of its sources. -/
structure Lub (L : Lists) (wd : Nat) (R : List Int) : Prop where
  grown : Grew L wd R
  done : DoneTo L wd (Le R) L.members.length

/-- The row indexes behind addComponent, the members of ms done. -/
def rowSet (row : List Int) (ms : List Int) (v : Int) : List Int := (List.range row.length).map fun (j : Nat) => if (j : Int) ∈ ms then v else row.getD j 0
theorem rowSet_nil (row : List Int) (v : Int) : rowSet row [] v = row := by
  apply List.ext_getElem?
  intro j
  by_cases h : j < row.length <;> simp [rowSet, h, List.getD]
theorem rowSet_length (row ms : List Int) (v : Int) : (rowSet row ms v).length = row.length := by simp [rowSet]
theorem rowSet_getD (row ms : List Int) (v : Int) (j : Nat) (h : j < row.length) : (rowSet row ms v).getD j 0 = if (j : Int) ∈ ms then v else row.getD j 0 := by
  simp [rowSet, List.getD, h]
theorem rowSet_set (row ms : List Int) (v : Int) (m : Nat) (h : m < row.length) : (rowSet row ms v).set m v = rowSet row (ms ++ [(m : Int)]) v := by
  apply List.ext_getElem?
  intro j
  by_cases hj : j < row.length
  · by_cases e : m = j
    · subst e
      simp [rowSet, h]
    · have e' : ¬ (j : Int) = (m : Int) := by omega
      simp [rowSet, hj, e, e']
  · simp [rowSet, hj]
theorem take_succ_getD (ms : List Int) (i : Nat) (h : i < ms.length) : ms.take (i + 1) = ms.take i ++ [ms.getD i 0] := by
  rw [List.take_succ_eq_append_getElem h]
  simp [List.getD, h]

end Go.Proofs.Qxb6603398a.Plain
