/-
  THE PLAIN MATHEMATICS of 'FnCountingSetReadKeepsWindow': runs of indexes as two lists of numbers. No Go in sight.
-/
namespace Go.Proofs.Qxb6602619a.Plain

/-- The runs from h on are each not empty, in rising order. (What the program's test says besides, that an index is missing between two neighbours, is not needed.) -/
def WF (fs ls : List Int) (h : Nat) (n : Nat) : Prop := ∀ i, h ≤ i → i < n → fs.getD i 0 ≤ ls.getD i 0 ∧ (h < i → ls.getD (i - 1) 0 < fs.getD i 0)

theorem WF.start (fs ls : List Int) (h : Nat) : WF fs ls h h := fun i hi hn => absurd hn (by omega)
theorem WF.step {fs ls : List Int} {h k : Nat} (w : WF fs ls h k) (h1 : fs.getD k 0 ≤ ls.getD k 0) (h2 : h < k → ls.getD (k - 1) 0 < fs.getD k 0) : WF fs ls h (k + 1) := by
  intro i hi hn
  by_cases e : i = k
  · subst e; exact ⟨h1, h2⟩
  · exact w i hi (by omega)


/-- The greater of the two, the lesser of the two, as the program tells them. -/
def cutLo (lo f : Int) : Int := if f < lo then lo else f
def cutHi (hi l : Int) : Int := if hi < l then hi else l
/-- One run cut to the window lo..hi: nothing, or one piece. -/
def piece (lo hi f l : Int) : List (Int × Int) := if cutLo lo f ≤ cutHi hi l then [(cutLo lo f, cutHi hi l)] else []
theorem piece_yes {lo hi f l f' l' : Int} (e1 : cutLo lo f = f') (e2 : cutHi hi l = l') (h : f' ≤ l') : piece lo hi f l = [(f', l')] := by unfold piece; rw [e1, e2, if_pos h]
theorem piece_no {lo hi f l f' l' : Int} (e1 : cutLo lo f = f') (e2 : cutHi hi l = l') (h : ¬ f' ≤ l') : piece lo hi f l = [] := by unfold piece; rw [e1, e2, if_neg h]
/-- The first k runs from the s-th on, cut. -/
def clip (lo hi : Int) (fs ls : List Int) : Nat → List (Int × Int)
  | 0 => []
  | k + 1 => clip lo hi fs ls k ++ piece lo hi (fs.getD k 0) (ls.getD k 0)
theorem piece_le (lo hi f l : Int) : (piece lo hi f l).length ≤ 1 := by unfold piece; split <;> simp
theorem clip_le (lo hi : Int) (fs ls : List Int) (k : Nat) : (clip lo hi fs ls k).length ≤ k := by
  induction k with
  | zero => simp [clip]
  | succ k ih => have := piece_le lo hi (fs.getD k 0) (ls.getD k 0); simp only [clip, List.length_append]; omega
end Go.Proofs.Qxb6602619a.Plain
