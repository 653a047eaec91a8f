/-
  THE PLAIN MATHEMATICS of 'FnAddComponentRowIsLeastUpperBound': what 'fitsAddComponent' lets through, and where a row's entries come from. No Go in sight.
-/
namespace Go.Proofs.Qxb6603398a.Plain

/-- The lists that the law is handed. -/
structure Lists where
  scope : List Int
  stream : List Int
  seq : List Int
  width : List Int
  slot : List Int
  row : List Int
  rows : List Int
  members : List Int
  preds : List Int
  froms : List Int
  tos : List Int

/-- Each number is an int32; an int. -/
def In32 (l : List Int) : Prop := ∀ i, -2147483648 ≤ l.getD i 0 ∧ l.getD i 0 ≤ 2147483647
def In64 (l : List Int) : Prop := ∀ i, -9223372036854775808 ≤ l.getD i 0 ∧ l.getD i 0 ≤ 9223372036854775807
/-- The kinds of all lists. -/
structure In (L : Lists) : Prop where
  scope : In32 L.scope
  stream : In32 L.stream
  seq : In32 L.seq
  width : In32 L.width
  slot : In32 L.slot
  row : In64 L.row
  rows : In32 L.rows
  members : In32 L.members
  preds : In32 L.preds
  froms : In32 L.froms
  tos : In32 L.tos

/-- Member i: message m, its stream st in slot k. -/
structure MemOk (L : Lists) (wd : Nat) (sc : Int) (i m st k : Nat) : Prop where
  em : L.members.getD i 0 = m
  l0 : m < L.scope.length
  l1 : m < L.stream.length
  l2 : m < L.seq.length
  l5 : m < L.row.length
  l9 : m < L.froms.length
  esc : L.scope.getD m 0 = sc
  est : L.stream.getD m 0 = st
  l4 : st < L.slot.length
  ek : L.slot.getD st 0 = k
  kw : k < wd

/-- Predecessor q: message pr; a member, or a message whose row lies in rows from r on. -/
structure PredOk (L : Lists) (wd : Nat) (sc : Int) (q pr : Nat) : Prop where
  epr : L.preds.getD q 0 = pr
  l0 : pr < L.scope.length
  l5 : pr < L.row.length
  esc : L.scope.getD pr 0 = sc
  erow : (pr : Int) ∈ L.members ∨ ∃ r : Nat, L.row.getD pr 0 = r ∧ r + wd ≤ L.rows.length

/-- Member i's predecessors: from f to t. -/
structure SpanOk (L : Lists) (wd : Nat) (sc : Int) (i m f t : Nat) : Prop where
  em : L.members.getD i 0 = m
  ef : L.froms.getD m 0 = f
  et : L.tos.getD m 0 = t
  ft : f ≤ t
  tl : t ≤ L.preds.length
  ok : ∀ q, f ≤ q → q < t → ∃ pr, PredOk L wd sc q pr

/-- All that 'fitsAddComponent' lets through. -/
structure Fit (L : Lists) (wd sc m0 : Nat) : Prop where
  bytes : 4 * (L.scope.length + L.stream.length + L.seq.length + L.width.length + L.slot.length + L.rows.length + L.members.length + L.preds.length + L.froms.length + L.tos.length) + 8 * L.row.length ≤ 1048576
  some : 0 < L.members.length
  two : L.froms.length = L.tos.length
  em0 : L.members.getD 0 0 = m0
  l0 : m0 < L.scope.length
  esc : L.scope.getD m0 0 = sc
  l3 : sc < L.width.length
  ewd : L.width.getD sc 0 = wd
  wl : wd ≤ 65536
  mem : ∀ i, i < L.members.length → ∃ m st k, MemOk L wd sc i m st k
  span : ∀ i, i < L.members.length → ∃ m f t, SpanOk L wd sc i m f t

end Go.Proofs.Qxb6603398a.Plain
