/-
  THE WALKS of (*countingSet).clear and (*countingSet).read.
-/
import Derived.Test.Qxb6602619aWalkC
import Derived.Deep.LoopGhost
namespace Go.Proofs.Qxb6602619a
open Go.RowKit Mem Plain
set_option linter.unusedVariables false

theorem CSet.drewN {w : World} {p g cap : Nat} {ps : List (Int × Int)} {h : Int} (c : CSet w p g cap ps h) (n : Nat) : CSet (w.drewN n) p g cap ps h := ⟨c.own, c.runs, c.ne, c.le⟩

/-- Nothing comes back; the set is now ps, h; below B nothing has turned. -/
def SetRet (B p g cap : Nat) (ps : List (Int × Int)) (h : Int) (w : World) (e : Ending) (w' : World) : Prop := e = .returned (.tuple #[]) ∧ CSet w' p g cap ps h ∧ Below B w w'

theorem cset_clear {w : World} {p g cap : Nat} {ps : List (Int × Int)} {h : Int} (hc : CSet w p g cap ps h) {B : Nat} (hp : B ≤ p) :
    CSet ((w.setCell ⟨p, 0, none⟩ (.slice (some ⟨g, 0, none⟩) 0 cap)).setCell ⟨p, 1, none⟩ (.int .i64 0)) p g cap [] 0 ∧ Below B w ((w.setCell ⟨p, 0, none⟩ (.slice (some ⟨g, 0, none⟩) 0 cap)).setCell ⟨p, 1, none⟩ (.int .i64 0)) := by
  obtain ⟨rest, hb, hl⟩ := hc.runs
  have hne := hc.ne
  refine ⟨⟨?_, ⟨flat ps ++ rest, ?_, by simpa [flat] using hl⟩, hc.ne, Nat.zero_le _⟩, ((Below.refl _ _).setCell hp _).setCell hp _⟩
  · exact (hc.own.set 0 _).set 1 _
  · exact (hb.other (Ne.symm hne) _ _).other (Ne.symm hne) _ _

theorem clear_any (B p g cap n : Nat) (h : Int) (ps : List (Int × Int)) (w : World) (hc : CSet w p g cap ps h) (hl : ps.length = n) (hp : B ≤ p) (hn : n ≤ cap) (hcap : cap ≤ 65536) :
    Calls Try.prog 22 #[.pointer (some ⟨p, 0, none⟩)] w (SetRet B p g cap [] 0 w) := by
  have HC : Hid (CSet w p g cap ps h) := hc
  have s0 := hc.slot0
  rw [hl] at s0
  have s1 := hc.slot1
  have f0 := hc.own.frozen 0
  have f1 := hc.own.frozen 1
  clear hc hl
  go_enter Try.func22, Try.ntmps22
  go_wp2
  go_end0
  have hh := cset_clear HC.out hp
  exact ⟨rfl, hh.1, hh.2⟩

/-- The head stands at the end: nothing happens. -/
theorem read_done (B p g cap n : Nat) (ps : List (Int × Int)) (w : World) (index most : Int) (inClass : Bool) (hc : CSet w p g cap ps n) (hl : ps.length = n) (hcap : cap ≤ 65536) (hn : n ≤ cap) :
    Calls Try.prog 21 #[.pointer (some ⟨p, 0, none⟩), .int .i64 index, .bool inClass, .int .i64 most] w (SetRet B p g cap ps n w) := by
  have HC : Hid (CSet w p g cap ps n) := hc
  have s0 := hc.slot0
  rw [hl] at s0
  have s1 := hc.slot1
  clear hc hl
  go_enter Try.func21, Try.ntmps21
  go_wp2
  go_quiet (fail)
  go_wp2
  go_end0
  exact ⟨rfl, HC.out.drewN _, below_drewN (Below.refl _ _) _⟩

theorem read_all (B p g cap n h : Nat) (ps : List (Int × Int)) (w : World) (index most : Int) (hc : CSet w p g cap ps h) (hl : ps.length = n) (hcap : cap ≤ 65536) (hn : n ≤ cap) (hh : h < n) (hm : most < 0) :
    Calls Try.prog 21 #[.pointer (some ⟨p, 0, none⟩), .int .i64 index, .bool true, .int .i64 most] w (SetRet B p g cap ps h w) := by
  have HC : Hid (CSet w p g cap ps h) := hc
  have s0 := hc.slot0
  rw [hl] at s0
  have s1 := hc.slot1
  clear hc hl
  have hh' : ((h : Int) == (n : Int)) = false := by simp; omega
  go_enter Try.func21, Try.ntmps21
  go_wp2
  go_quiet (fail)
  go_wp2
  go_quiet (fail)
  go_wp2
  go_end0
  exact ⟨rfl, HC.out.drewN _, below_drewN (Below.refl _ _) _⟩

/-- Not in the class, no way entered at index: all stop. -/
theorem read_none (B p g cap n h : Nat) (ps : List (Int × Int)) (w : World) (index most : Int) (hc : CSet w p g cap ps h) (hl : ps.length = n) (hcap : cap ≤ 65536) (hn : n ≤ cap) (hh : h < n) (hp : B ≤ p)
    (hi : (ps.getD (n - 1) (0, 0)).2 ≠ index) :
    Calls Try.prog 21 #[.pointer (some ⟨p, 0, none⟩), .int .i64 index, .bool false, .int .i64 most] w (SetRet B p g cap [] 0 w) := by
  have HC : Hid (CSet w p g cap ps h) := hc
  have HL : Hid (ps.length = n) := hl
  have s0 := hc.slot0
  rw [hl] at s0
  have s1 := hc.slot1
  have c1 := hc.last (n - 1) (by omega)
  clear hc hl
  have hh' : ((h : Int) == (n : Int)) = false := by simp; omega
  have hn1 : (0 : Int) < (n : Int) := by omega
  generalize (ps.getD (n - 1) (0, 0)).2 = l at c1 hi
  have hli : (l == index) = false := by simpa using hi
  clear hi
  go_enter Try.func21, Try.ntmps21
  go_wp2
  go_quiet (fail)
  go_wp2
  go_quiet (fail)
  go_wp2_with fail
  refine (clear_any B p g cap n h ps _ (HC.out.drewN _) HL.out hp hn hcap).mono ?_
  rintro e w' ⟨rfl, hcl, hb⟩
  have HCL := hid hcl
  have HB := hid hb
  clear hcl hb
  go_wp2
  go_end0
  exact ⟨rfl, HCL.out, (below_drewN (Below.refl _ _) _).trans HB.out⟩

theorem cset_one {w : World} {p g cap : Nat} {ps : List (Int × Int)} {h : Int} (hc : CSet w p g cap ps h) (h1 : 0 < ps.length) {B : Nat} (hp : B ≤ p) (hg : B ≤ g) (i : Int) (o : Obj) (hlt : p < w.heap.size) :
    CSet (((((w.setCell ⟨g, 0, none⟩ (.int .i64 i)).setCell ⟨g, 1, none⟩ (.int .i64 i)).setCell ⟨p, 0, none⟩ (.slice (some ⟨g, 0, none⟩) 1 cap)).setCell ⟨p, 1, none⟩ (.int .i64 0)).alloc o) p g cap [(i, i)] 0 ∧
    Below B w (((((w.setCell ⟨g, 0, none⟩ (.int .i64 i)).setCell ⟨g, 1, none⟩ (.int .i64 i)).setCell ⟨p, 0, none⟩ (.slice (some ⟨g, 0, none⟩) 1 cap)).setCell ⟨p, 1, none⟩ (.int .i64 0)).alloc o) := by
  obtain ⟨rest, hb, hl⟩ := hc.runs
  have hne := hc.ne
  have hle := hc.le
  refine ⟨⟨?_, ?_, hc.ne, by simp; omega⟩, ((((((Below.refl _ _).setCell hg _).setCell hg _).setCell hp _).setCell hp _).alloc (by simp; omega) _)⟩
  · exact ((((hc.own.other hne _ _).other hne _ _).set 0 _).set 1 _).alloc _
  · match ps, h1 with
    | q :: qs, _ =>
      refine ⟨flat qs ++ rest, ?_, ?_⟩
      · exact ((((hb.set 0 (.int .i64 i)).set 1 (.int .i64 i)).other (Ne.symm hne) _ _).other (Ne.symm hne) _ _).alloc _
      · rw [← hl]; simp [flat]

/-- Not in the class, one way entered at index: it alone stays. -/
theorem read_one (B p g cap n h : Nat) (ps : List (Int × Int)) (w : World) (index most : Int) (hc : CSet w p g cap ps h) (hl : ps.length = n) (hcap : cap ≤ 65536) (hn : n ≤ cap) (hh : h < n) (hp : B ≤ p) (hg : B ≤ g)
    (hi : (ps.getD (n - 1) (0, 0)).2 = index) :
    Calls Try.prog 21 #[.pointer (some ⟨p, 0, none⟩), .int .i64 index, .bool false, .int .i64 most] w (SetRet B p g cap [(index, index)] 0 w) := by
  have HC : Hid (CSet w p g cap ps h) := hc
  have HL : Hid (ps.length = n) := hl
  have s0 := hc.slot0
  rw [hl] at s0
  have s1 := hc.slot1
  have c1 := hc.last (n - 1) (by omega)
  have c2 := hc.first 0 (by omega)
  have c3 := hc.last 0 (by omega)
  simp only [Nat.zero_mul, Nat.zero_add] at c2 c3
  have f0 := hc.own.frozen 0
  have f1 := hc.own.frozen 1
  have f2 := hc.frozen 0
  have f3 := hc.frozen 1
  have hne := hc.ne
  have hlt := hc.lt
  clear hc hl
  have hh' : ((h : Int) == (n : Int)) = false := by simp; omega
  have hn1 : (0 : Int) < (n : Int) := by omega
  rw [hi] at c1
  clear hi
  have hda : ∀ (w : World) n o, (w.drewN n).alloc o = (w.alloc o).drewN n := fun _ _ _ => rfl
  have hds : ∀ (w : World) n a v, (w.drewN n).setCell a v = (w.setCell a v).drewN n := fun _ _ _ _ => rfl
  go_enter Try.func21, Try.ntmps21
  go_wp2
  go_quiet (fail)
  go_wp2
  go_quiet (fail)
  go_wp2
  go_end0
  have hh := cset_one HC.out (by rw [HL.out]; omega) hp hg index (Obj.cells #[Value.int IntKind.i64 index, Value.int IntKind.i64 index] 40) hlt.1
  exact ⟨rfl, hh.1.drewN _, below_drewN hh.2 _⟩

theorem flat_set (ps : List (Int × Int)) (k : Nat) (hk : k < ps.length) (x : Int) : (flat ps).set (k * 2) (.int .i64 x) = flat (ps.set k (x, (ps.getD k (0, 0)).2)) := by
  induction ps generalizing k with
  | nil => simp at hk
  | cons p ps ih =>
    rw [show flat (p :: ps) = .int .i64 p.1 :: .int .i64 p.2 :: flat ps from rfl]
    cases k with
    | zero => rfl
    | succ k =>
      rw [show (k + 1) * 2 = k * 2 + 1 + 1 by omega, List.set_cons_succ, List.set_cons_succ, ih k (by simpa using hk)]
      simp [flat]
theorem cset_first {w : World} {p g cap : Nat} {ps : List (Int × Int)} {h : Int} (hc : CSet w p g cap ps h) (k : Nat) (hk : k < ps.length) (x : Int) :
    CSet (w.setCell ⟨g, k * 2, none⟩ (.int .i64 x)) p g cap (ps.set k (x, (ps.getD k (0, 0)).2)) h := by
  obtain ⟨rest, hb, hl⟩ := hc.runs
  have hfl := flat_length ps
  refine ⟨by rw [List.length_set]; exact hc.own.other hc.ne _ _, ⟨rest, ?_, ?_⟩, hc.ne, by rw [List.length_set]; exact hc.le⟩
  · have h1 := hb.set (k * 2) (.int .i64 x)
    rwa [List.set_append_left _ _ (by omega), flat_set ps k hk] at h1
  · rw [← hl, List.length_append, List.length_append, flat_length, flat_length, List.length_set]

/-- What is skipped over. -/
def Skip (ps : List (Int × Int)) (oldest : Int) (h k : Nat) : Prop := ∀ i, h ≤ i → i < k → (ps.getD i (0, 0)).2 < oldest

theorem Skip.step {ps : List (Int × Int)} {oldest : Int} {h k : Nat} (s : Skip ps oldest h k) (hk : (ps.getD k (0, 0)).2 < oldest) : Skip ps oldest h (k + 1) := by
  intro i h1 h2
  by_cases e : i = k
  · subst e; exact hk
  · exact s i h1 (by omega)

/-- In the class, a most: those that have counted more than most stop. -/
def ReadMost (B p g cap n h : Nat) (ps : List (Int × Int)) (oldest : Int) (w : World) (e : Ending) (w' : World) : Prop :=
  e = .returned (.tuple #[]) ∧ Below B w w' ∧ ∃ k : Nat, h ≤ k ∧ k ≤ n ∧ Skip ps oldest h k ∧
    ((k = n ∧ CSet w' p g cap ps k) ∨ (k < n ∧ ¬ (ps.getD k (0, 0)).2 < oldest ∧ CSet w' p g cap (ps.set k (max (ps.getD k (0, 0)).1 oldest, (ps.getD k (0, 0)).2)) k))

theorem cset_head {w : World} {p g cap : Nat} {ps : List (Int × Int)} {h : Int} (hc : CSet w p g cap ps h) (k : Int) : CSet (w.setCell ⟨p, 1, none⟩ (.int .i64 k)) p g cap ps k := by
  obtain ⟨rest, hb, hl⟩ := hc.runs
  exact ⟨hc.own.set 1 _, ⟨rest, hb.other (Ne.symm hc.ne) _ _, hl⟩, hc.ne, hc.le⟩

set_option maxHeartbeats 1000000 in
theorem read_most (B p g cap n h : Nat) (ps : List (Int × Int)) (w : World) (index most : Int) (hc : CSet w p g cap ps h) (hl : ps.length = n) (hcap : cap ≤ 65536) (hn : n ≤ cap) (hh : h < n) (hp : B ≤ p) (hg : B ≤ g)
    (hm : 0 ≤ most) (hlo : -9223372036854775808 ≤ index - most) (hhi : index - most ≤ 9223372036854775807) :
    Calls Try.prog 21 #[.pointer (some ⟨p, 0, none⟩), .int .i64 index, .bool true, .int .i64 most] w (ReadMost B p g cap n h ps (index - most) w) := by
  have HC : Hid (CSet w p g cap ps h) := hc
  have HL : Hid (ps.length = n) := hl
  have s0 := hc.slot0
  rw [hl] at s0
  have s1 := hc.slot1
  clear hc hl
  have hh' : ((h : Int) == (n : Int)) = false := by simp; omega
  go_enter Try.func21, Try.ntmps21
  go_wp2
  go_quiet (fail)
  go_wp2
  go_quiet (fail)
  go_wp2
  go_loopg [] (n - h) (fun gk wr => ∃ k : Nat, h ≤ k ∧ k ≤ n ∧ gk = n - k ∧ Hid (CSet wr p g cap ps k) ∧ Hid (Skip ps (index - most) h k) ∧ Below B w wr)
  case atStart => exact ⟨h, Nat.le_refl _, by omega, rfl, HC.out.drewN _, hid (fun i h1 h2 => absurd h2 (by omega)), below_drewN (Below.refl _ _) _⟩
  case round =>
    obtain ⟨k, hk0, hk, rfl, hcr, hsk, hb⟩ := hrel
    clear s0 s1
    have s0 := hcr.out.slot0
    rw [HL.out] at s0
    have s1 := hcr.out.slot1
    have f1 := hcr.out.own.frozen 1
    by_cases hlt : k < n
    · have hlt' : (k : Int) < (n : Int) := by omega
      have c1 := hcr.out.last k (by rw [HL.out]; exact hlt)
      obtain ⟨l, hl⟩ : ∃ l, Hid ((ps.getD k (0, 0)).2 = l) := ⟨_, rfl⟩
      rw [hl.out] at c1
      by_cases hold : l < index - most
      · go_wp2
        go_quiet (fail)
        go_wp2
        go_roundg (n - (k + 1))
        case measure => omega
        case rel => exact ⟨k + 1, by omega, by omega, rfl, hid (cset_head (hcr.out.drewN _) _), Skip.step hsk.out (by rw [hl.out]; exact hold), (below_drewN hb _).setCell hp _⟩
      · have c0 := hcr.out.first k (by rw [HL.out]; exact hlt)
        obtain ⟨f, hf⟩ : ∃ f, Hid ((ps.getD k (0, 0)).1 = f) := ⟨_, rfl⟩
        rw [hf.out] at c0
        have f0 := hcr.out.frozen (k * 2)
        have hne := hcr.out.ne
        go_wp2
        go_quiet (fail)
        go_wp2
        go_quiet (fail)
        go_wp2
        go_region
        all_goals go_wp2
        · go_end0
          have hmx : max (ps.getD k (0, 0)).1 (index - most) = index - most := by
            have h1 : f < index - most := by assumption
            rw [hf.out]; omega
          have hh := cset_first (hcr.out.drewN 0) k (by rw [HL.out]; exact hlt) (index - most)
          exact ⟨rfl, (below_drewN hb _).setCell hg _, k, hk0, hk, hsk.out, .inr ⟨hlt, by rw [hl.out]; omega, by rw [hmx]; exact hh.drewN _⟩⟩
        · go_end0
          have hmx : max (ps.getD k (0, 0)).1 (index - most) = f := by
            have h1 : index - most ≤ f := by assumption
            rw [hf.out]; omega
          have hh := cset_first (hcr.out.drewN 0) k (by rw [HL.out]; exact hlt) f
          exact ⟨rfl, (below_drewN hb _).setCell hg _, k, hk0, hk, hsk.out, .inr ⟨hlt, by rw [hl.out]; omega, by rw [hmx]; exact hh.drewN _⟩⟩
    · have ek : k = n := by omega
      subst ek
      have hd : decide ((k : Int) < (k : Int)) = false := by simp
      go_wp2
      go_quiet (fail)
      go_wp2
      go_quiet (fail)
      go_wp2
      go_end0
      exact ⟨rfl, below_drewN (below_drewN hb _) _, k, hk0, Nat.le_refl _, hsk.out, .inl ⟨rfl, (hcr.out.drewN _).drewN _⟩⟩
end Go.Proofs.Qxb6602619a
