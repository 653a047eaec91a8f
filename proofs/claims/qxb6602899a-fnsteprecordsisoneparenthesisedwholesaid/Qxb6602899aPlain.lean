/-
  THE PLAIN MATHEMATICS of 'FnStepRecordsIsOneParenthesisedWhole': depths of parentheses over lists of bytes. No Go in sight.
-/
namespace Go.Proofs.Qxb6602899a.Plain

/-- What one byte adds to the depth. -/
def val (c : UInt8) : Int := if c.toNat = 40 then 1 else if c.toNat = 41 then -1 else 0
/-- The depth behind a list of bytes. -/
def dep : List UInt8 → Int
  | [] => 0
  | c :: l => val c + dep l

theorem dep_append (a b : List UInt8) : dep (a ++ b) = dep a + dep b := by
  induction a with
  | nil => simp [dep]
  | cons c l ih => simp [dep, ih]; omega

theorem val_le (c : UInt8) : -1 ≤ val c ∧ val c ≤ 1 := by unfold val; split <;> (try split) <;> omega

theorem dep_le (l : List UInt8) : -(l.length : Int) ≤ dep l ∧ dep l ≤ l.length := by
  induction l with
  | nil => simp [dep]
  | cons c l ih => have := val_le c; simp only [dep, List.length_cons]; omega

/-- Balanced: no prefix goes below nought, the whole comes to nought. -/
def Bal (l : List UInt8) : Prop := dep l = 0 ∧ ∀ j, 0 ≤ dep (l.take j)

/-- The depth from d on stays above nought over the whole list, and ends at one. -/
def okp : Int → List UInt8 → Bool
  | d, [] => d == 1
  | d, c :: l => decide (0 < d + val c) && okp (d + val c) l

theorem okp_take (d : Int) (l : List UInt8) (h : okp d l = true) : d + dep l = 1 ∧ ∀ j, 1 ≤ j → j ≤ l.length → 0 < d + dep (l.take j) := by
  induction l generalizing d with
  | nil => simp [okp] at h; simp [dep, h]
  | cons c l ih =>
    simp only [okp, Bool.and_eq_true, decide_eq_true_eq] at h
    obtain ⟨h1, h2⟩ := ih _ h.2
    refine ⟨by simp only [dep]; omega, fun j hj hl => ?_⟩
    match j, hj with
    | 1, _ => simp [dep]; exact h.1
    | j + 2, _ =>
      have := h2 (j + 1) (by omega) (by simp at hl; omega)
      simp only [List.take_succ_cons, dep]
      omega

/-- The prefix of the query. -/
def preOK (l : List UInt8) : Bool := l.head? == some 40 && okp 0 l && decide (l.length ≤ 4096)

/-- THE PLAIN LAW: prefix, balanced text, one closing sign. -/
theorem whole (p s : List UInt8) (hp : preOK p = true) (hs : Bal s) :
    (p ++ s ++ [41]).length = p.length + s.length + 1 ∧ 1 ≤ p.length ∧ p.length ≤ 4096 ∧ (p ++ s ++ [41])[0]? = some 40 ∧ dep (p ++ s ++ [41]) = 0 ∧
    ∀ j, 1 ≤ j → j < (p ++ s ++ [41]).length → 0 < dep ((p ++ s ++ [41]).take j) := by
  simp only [preOK, Bool.and_eq_true, decide_eq_true_eq, beq_iff_eq] at hp
  obtain ⟨⟨h0, h1⟩, h2⟩ := hp
  obtain ⟨h3, h4⟩ := okp_take 0 p h1
  obtain ⟨s0, s1⟩ := hs
  have hl : 1 ≤ p.length := by
    cases p with
    | nil => simp at h0
    | cons c l => simp
  refine ⟨by simp; omega, hl, h2, ?_, ?_, ?_⟩
  · cases p with
    | nil => simp at h0
    | cons c l => simpa using h0
  · have e41 : dep [41] = -1 := by decide
    rw [dep_append, dep_append, e41]
    omega
  · intro j hj hjl
    simp only [List.length_append, List.length_cons, List.length_nil] at hjl
    rw [List.take_append_of_le_length (by simp; omega)]
    by_cases hjp : j ≤ p.length
    · rw [List.take_append_of_le_length hjp]
      have := h4 j hj hjp
      omega
    · rw [List.take_append, List.take_of_length_le (by omega : p.length ≤ j), dep_append]
      have := s1 (j - p.length)
      omega

theorem dep_snoc (l : List UInt8) (k : Nat) (h : k < l.length) : dep (l.take (k + 1)) = dep (l.take k) + val l[k] := by
  rw [List.take_succ_eq_append_getElem h, dep_append]
  simp [dep]

end Go.Proofs.Qxb6602899a.Plain
