/-
  THE WALK of (*checker).markEarly.
-/
import Derived.Test.Qxb6603398aRows
import Derived.Test.Qxb6603398aEMid
import Derived.Deep.CutRange
import Derived.Deep.CutBlock

namespace Go.Proofs.Qxb6603398a
open Go.RowKit Mem Early E
set_option linter.unusedVariables false

set_option maxRecDepth 20000 in
set_option maxHeartbeats 8000000 in
theorem mark_any (L : Lists) (hL : InE L) (B pl pk pc gP gE gMs gS gM n1 n2 n3 : Nat) (a4 a5 a6 a7 a8 a9 a10 a11 : Option Addr) (n4 n5 n6 n7 n8 n9 n10 n11 c4 c5 c6 c7 c8 c9 c10 c11 : Nat) (w : World)
    (hf : ∀ i, i < n1 → Fit L i) (hn : LensE L n1 n2 n3 n4 n5 n6 n7 n8 n9 n10 n11) (ho : OrdE B gS gM gE gMs gP pl pk pc) (hst : Stat L w B pl pk gP gE gMs n1 n2 a4 a5 a6 a7 a8 a9 a10 a11 n4 n5 n6 n7 n8 n9 n10 n11 c4 c5 c6 c7 c8 c9 c10 n11)
    (hpc : Blk w pc (chk pl pk gS n3 gM n8 (.slice none 0 0) (.slice none 0 0) (.slice none 0 0)) 66) (hS : Blk w gS (ints .i32 L.seen) 21) (hM : Blk w gM (ints .i32 (List.replicate n8 0)) 21) :
    Calls Try.prog 19 #[.pointer (some ⟨pc, 0, none⟩), .int .i32 (L.p : Int)] w (MarkRet L w pl pk pc gS n3 gM n8 (firstTo L n1)) := by
  have HF := hid hf
  have HN := hid hn
  have HO := hid ho
  have HST := hid hst
  have HPC := hid hpc
  have HS := hid hS
  have HM := hid hM
  have e4 : w.cell? ⟨pc, 4, none⟩ = some (.slice none 0 0) := by rw [hpc.cell]; rfl
  have e0 : w.cell? ⟨pc, 0, none⟩ = some (.pointer (some ⟨pl, 0, none⟩)) := by rw [hpc.cell]; rfl
  have f4 := hpc.frozen 4
  have hsl := slice0
  have g0 := hst.log0
  have g1 := hst.par
  have hpl : pl ≠ pc := by have := ho.o7; have := ho.o8; omega
  have hgp : gP ≠ pc := by have := ho.o6; have := ho.o7; have := ho.o8; omega
  obtain ⟨p, hp⟩ : ∃ p, Hid (L.p = p) := ⟨_, rfl⟩
  have ip : (p : Int) ≤ 65536 := by have := hL.p; rw [hp.out] at this; omega
  rw [hp.out] at g0 g1 ⊢
  have j1 : (n1 : Int) ≤ 1048576 := by have := hn.sum; omega
  clear hf hn ho hst hpc hS hM
  go_enter Try.func19, Try.ntmps19
  go_wp2
  clear e4 e0 f4 hsl g0 g1
  have hpcl : pc < w.heap.size := HPC.out.lt
  go_loopw [37] (fun i wr => ∃ (k : Nat) (vF : Value) (Z : List Int), k ≤ n1 ∧ i = .int .i64 k ∧ Hid (Mid L w wr pl pk pc gS n3 gM n8 (firstTo L k) vF (.slice none 0 0) (.slice none 0 0) Z (List.replicate n8 0))) (fun i _ => n1 - (intOf i).toNat)
  case atStart =>
    have o := HO.out
    refine ⟨0, .slice none 0 0, L.seen, Nat.zero_le _, rfl, hid ⟨(Keeps.refl _ _).setCell (.inl rfl) _, HPC.out.set 4 _, HS.out.other (by have := o.o2; have := o.o3; have := o.o4; have := o.o5; have := o.o6; have := o.o7; have := o.o8; omega) 4 _, HM.out.other (by have := o.o3; have := o.o4; have := o.o5; have := o.o6; have := o.o7; have := o.o8; omega) 4 _, World.ownsRow_nil _ _ _ _, SeenIs.start L⟩⟩
  case round =>
    obtain ⟨k, vF, Z, hk, rfl, hmid⟩ := hrel
    by_cases hlt : k < n1
    · have hlt' : (k : Int) < (n1 : Int) := by omega
      have hs := stat_keeps HST.out HO.out hpcl hmid.out.kp
      obtain ⟨z, hz⟩ : ∃ z, Hid (L.msgs.getD k 0 = z) := ⟨_, rfl⟩
      obtain ⟨s, hs1⟩ : ∃ s, Hid (L.sends.getD k false = s) := ⟨_, rfl⟩
      have lo_z : -2147483648 ≤ z := by rw [← hz.out]; exact (hL.msgs k).1
      have hi_z : z ≤ 2147483647 := by rw [← hz.out]; exact (hL.msgs k).2
      have cz : wr.cell? ⟨gE, k * 2, none⟩ = some (.int .i32 z) := by rw [hs.ev0 k hlt, hz.out]
      have cs : wr.cell? ⟨gE, k * 2 + 1, none⟩ = some (.bool s) := by rw [hs.ev1 k hlt, hs1.out]
      have HSt := hid hs
      clear hs
      cases s
      case true =>
        go_wp2
        go_quiet (fail)
        go_wp2
        go_roundw
        case rel =>
          have hkeep : firstTo L (k + 1) = firstTo L k := by
            rw [firstTo, if_neg]
            rintro ⟨h1, _⟩
            simp only [keep, hs1.out, Bool.not_true, Bool.false_and] at h1
            cases h1
          exact ⟨k + 1, vF, Z, by omega, by go_num, hid (by rw [hkeep]; exact (hmid.out.alloc _).drewN _)⟩
        case measure => simp [intOf]; omega
      case false =>
        have hF := HF.out k hlt
        rcases hF with hF | ⟨e1, e2, hF⟩
        · rw [hs1.out] at hF; cases hF
        obtain ⟨m, hm⟩ : ∃ m, Hid (L.msgN k = m) := ⟨_, rfl⟩
        rw [hm.out] at e1 e2 hF
        obtain rfl : z = (m : Int) := by rw [← hz.out]; exact e1
        clear e1 lo_z
        have im : (m : Int) < (n2 : Int) := by have := HN.out.l2; omega
        have in2 : (n2 : Int) ≤ 1048576 := by have := HN.out.sum; omega
        go_wp2
        obtain ⟨g1, hg1⟩ : ∃ g, Hid (wr.heap.size = g) := ⟨_, rfl⟩
        obtain ⟨w1, hw1⟩ : ∃ u, Hid (wr.alloc (.cells #[.int .i32 (m : Int), .bool false] 51) = u) := ⟨_, rfl⟩
        rw [hw1.out, hg1.out]
        have m1 : Hid (Mid L w w1 pl pk pc gS n3 gM n8 (firstTo L k) vF (.slice none 0 0) (.slice none 0 0) Z (List.replicate n8 0)) := by rw [← hw1.out]; exact hid (hmid.out.alloc _)
        have b1 : Hid (Blk w1 g1 [.int .i32 (m : Int), .bool false] 51) := by rw [← hw1.out, ← hg1.out]; exact hid (Blk.new _ _ _)
        have s1 := hid (stat_keeps HST.out HO.out hpcl m1.out.kp)
        have hkp := hid hmid.out.kp
        clear cz cs hw1 hmid HSt
        have cm : w1.cell? ⟨g1, 0, none⟩ = some (.int .i32 (m : Int)) := by rw [b1.out.cell]; rfl
        have csn : w1.cell? ⟨g1, 1, none⟩ = some (.bool false) := by rw [b1.out.cell]; rfl
        have c0 : w1.cell? ⟨pc, 0, none⟩ = some (.pointer (some ⟨pl, 0, none⟩)) := by rw [m1.out.pc.cell]; rfl
        have c6 : w1.cell? ⟨pc, 6, none⟩ = some (.slice (some ⟨gS, 0, none⟩) n3 n3) := by rw [m1.out.pc.cell]; rfl
        have cl2 := s1.out.log2
        obtain ⟨z2, hz2⟩ : ∃ z, Hid (L.sender.getD m 0 = z) := ⟨_, rfl⟩
        have cms : w1.cell? ⟨gMs, m * 3 + 1, none⟩ = some (.int .i32 z2) := by rw [s1.out.ms m (by have := HN.out.l2; omega), hz2.out]
        have lo_z2 : -2147483648 ≤ z2 := by rw [← hz2.out]; exact (hL.sender m).1
        have hi_z2 : z2 ≤ 2147483647 := by rw [← hz2.out]; exact (hL.sender m).2
        by_cases h2 : z2 < 0
        · have hd2 : decide (z2 < 0) = true := decide_eq_true h2
          go_quiet (fail)
          go_wp2
          go_roundw
          case rel =>
            have hkeep : firstTo L (k + 1) = firstTo L k := by
              rw [firstTo, if_neg]
              rintro ⟨h1, _⟩
              simp only [keep, hm.out, hz2.out, decide_eq_false (show ¬ 0 ≤ z2 by omega), Bool.false_and, Bool.and_false] at h1
              cases h1
            exact ⟨k + 1, vF, Z, by omega, by go_num, hid (by rw [hkeep]; exact m1.out.drewN _)⟩
          case measure => simp [intOf]; omega
        have hd2 : decide (z2 < 0) = false := decide_eq_false h2
        replace hF := hF.resolve_left (by rw [hz2.out]; exact h2)
        obtain ⟨l3, hF⟩ := hF
        have i3 : (m : Int) < (n3 : Int) := by have := HN.out.l3; omega
        have in3 : (n3 : Int) ≤ 1048576 := by have := HN.out.sum; omega
        obtain ⟨z3, hz3⟩ : ∃ z, Hid (Z.getD m 0 = z) := ⟨_, rfl⟩
        have cgs : w1.cell? ⟨gS, m, none⟩ = some (.int .i32 z3) := by rw [m1.out.gS.int (by rw [m1.out.seen.1]; exact l3), hz3.out]
        have ht := hid (m1.out.seen.test l3)
        by_cases h3 : z3 = (p : Int) + 1
        · have hd3 : decide (z3 = (p : Int) + 1) = true := decide_eq_true h3
          go_quiet (fail)
          go_wp2
          go_roundw
          case rel =>
            have hkeep : firstTo L (k + 1) = firstTo L k := by
              rw [firstTo, if_neg]
              rintro ⟨h1, h4⟩
              rw [hm.out] at h4
              have h5 := ht.out.1 (by rw [hz3.out, h3, hp.out])
              rcases h5 with h5 | h5
              · simp only [keep, hm.out, h5, decide_true, Bool.not_true, Bool.and_false] at h1
                cases h1
              · exact h4 h5
            exact ⟨k + 1, vF, Z, by omega, by go_num, hid (by rw [hkeep]; exact m1.out.drewN _)⟩
          case measure => simp [intOf]; omega
        have hd3 : decide (z3 = (p : Int) + 1) = false := decide_eq_false h3
        go_quiet (fail)
        go_wp2
        have fgs := m1.out.gS.frozen m
        go_region
        go_wp2
        obtain ⟨w2, hw2⟩ : ∃ u, Hid ((w1.drewN (nq + 1)).setCell ⟨gS, m, none⟩ (.int .i32 ((p : Int) + 1)) = u) := ⟨_, rfl⟩
        rw [hw2.out]
        have o := HO.out
        have hS1 : gS < w.heap.size := HS.out.lt
        have hM1 : gM < w.heap.size := HM.out.lt
        have hge : w.heap.size ≤ w1.heap.size := m1.out.kp.size
        have q1 : pc ≠ gS := by have := o.o2; have := o.o3; have := o.o4; have := o.o5; have := o.o6; have := o.o7; have := o.o8; omega
        have q2 : pc ≠ gM := by have := o.o3; have := o.o4; have := o.o5; have := o.o6; have := o.o7; have := o.o8; omega
        have q3 : gS ≠ gM := by have := o.o2; omega
        have q4 : g1 ≠ gS := by rw [← hg1.out]; have := hkp.out.size; omega
        have x2 : Hid (∀ j : Nat, w2.heap[j]? = (w1.setCell ⟨gS, m, none⟩ (.int .i32 ((L.p : Int) + 1))).heap[j]?) := by rw [← hw2.out, hp.out]; exact hid (fun _ => rfl)
        have y2 : Hid (w2.heap.size = w1.heap.size) := by rw [← hw2.out]; exact hid (by simp)
        have z2a : Hid (w2.os = w1.os ∧ w2.tape = w1.tape ∧ w2.output = w1.output) := by rw [← hw2.out]; exact hid ⟨rfl, rfl, rfl⟩
        have cm2 : w2.cell? ⟨g1, 0, none⟩ = some (.int .i32 (m : Int)) := by rw [World.cell?_of_block (w := w1.setCell ⟨gS, m, none⟩ (.int .i32 ((L.p : Int) + 1))) (x2.out g1), (b1.out.other q4 m _).cell]; rfl
        have b2 : Hid (Blk w2 pc (chk pl pk gS n3 gM n8 vF (.slice none 0 0) (.slice none 0 0)) 66) := by
          have := m1.out.pc.other q1 m (.int .i32 ((L.p : Int) + 1))
          unfold Blk at this ⊢; rw [x2.out pc]; exact hid this
        have c42 : w2.cell? ⟨pc, 4, none⟩ = some vF := by rw [b2.out.cell]; rfl
        have own2 : Hid (w2.ownsRow w.heap.size 21 1 vF (firstTo L k).length (ints .i32 (natsZ (firstTo L k)))) := by
          have := owns_other m1.out.own (p := ⟨gS, m, none⟩) hS1 (.int .i32 ((L.p : Int) + 1))
          refine hid (this.kept (row := none) ⟨?_, ?_, ?_, ?_, fun j _ _ => x2.out j⟩ ?_)
          · exact z2a.out.1
          · exact z2a.out.2.1
          · exact z2a.out.2.2
          · rw [y2.out]; simp
          · cases hv : vF.ownBlock <;> simp
        clear cm csn c0 c6 cl2 cms cgs fgs hw2
        obtain ⟨i0, hi, hz0, hz1, hz2'⟩ := info_parts Try.info21
        have hlen := firstTo_len L k
        have own3 : Hid (((w2.alloc (.cells #[.int .i32 (m : Int)] 21)).drew).ownsRow w.heap.size 21 1 vF (firstTo L k).length (ints .i32 (natsZ (firstTo L k)))) := hid (own2.out.alloc _)
        have pc3 : Hid (Blk ((w2.alloc (.cells #[.int .i32 (m : Int)] 21)).drew) pc (chk pl pk gS n3 gM n8 vF (.slice none 0 0) (.slice none 0 0)) 66) := hid (b2.out.alloc _)
        have c43 : (w2.alloc (.cells #[.int .i32 (m : Int)] 21)).cell? ⟨pc, 4, none⟩ = some vF := by rw [(b2.out.alloc _).cell]; rfl
        have cell3 := hid (one_new w2 (.int .i32 (m : Int)) 21)
        have one3 : Hid (∀ u ∈ [Value.int .i32 (m : Int)], u.oneCell' = true) := hid (by intro u hu; simp only [List.mem_singleton] at hu; subst hu; rfl)
        have mx1 : (firstTo L k).length + 1 ≤ maxLen := by simp only [maxLen]; omega
        have mx2 : ((firstTo L k).length + 1) * 4 ≤ 140737488355328 := by omega
        have hb3 : w.heap.size ≤ ((w2.alloc (.cells #[.int .i32 (m : Int)] 21)).drew).heap.size := by have := y2.out; simp; omega
        have nb : some pc ≠ vF.ownBlock := ownBlock_ge own3.out hpcl
        go_region_law (refine step_append_own rfl (.tmp 84) (.tmp 87) 29 rfl w.heap.size 21 i0 (.int .i32 0) 1 4 Try.underlying29 hi hz0 hz1 hz2' rfl (by omega) vF _ _ rfl own3.out ⟨w2.heap.size, 0, none⟩ 1 1 [.int .i32 (m : Int)] rfl rfl cell3.out one3.out mx1 mx2 hb3 ?_; intro v5 w5 hown5 hgrow5 hiff5; obtain ⟨aX, cX, rfl⟩ := slice_of_own hown5; replace hown5 := hid hown5; replace hgrow5 := hid hgrow5; clear hiff5; have b5 := hid (grow_blk hgrow5.out pc3.out nb); have c45 : w5.cell? ⟨pc, 4, none⟩ = some vF := by { rw [b5.out.cell]; rfl }; have f45 := b5.out.frozen 4)
        all_goals
          go_wp2
          go_roundw
          case rel =>
            have hkeep : firstTo L (k + 1) = firstTo L k ++ [m] := by
              rw [firstTo, if_pos, hm.out]
              refine ⟨?_, ?_⟩
              · simp only [keep, hs1.out, hm.out, hz2.out, Bool.and_eq_true, Bool.not_eq_true', decide_eq_true_eq, decide_eq_false_iff_not, true_and]
                refine ⟨by omega, fun h5 => h3 ?_⟩
                rw [← hz3.out, ← hp.out]; exact ht.out.2 (.inl h5)
              · rw [hm.out]; intro h5; exact h3 (by rw [← hz3.out, ← hp.out]; exact ht.out.2 (.inr h5))
            refine ⟨k + 1, .slice aX ((firstTo L k).length + 1) cX, Z.set m ((L.p : Int) + 1), by omega, by go_num, hid ?_⟩
            rw [hkeep]
            exact mid_append m1.out l3 q1 q2 q3 hpcl hS1 hM1 x2.out y2.out z2a.out.1 z2a.out.2.1 z2a.out.2.2 (grow_drew hgrow5.out) hown5.out
          case measure => simp [intOf]; omega
    · have ek : n1 = k := by omega
      subst ek
      obtain ⟨F, hFF⟩ : ∃ F, Hid (firstTo L n1 = F) := ⟨_, rfl⟩
      rw [hFF.out] at hmid
      have hlF : F.length ≤ n1 := by rw [← hFF.out]; exact firstTo_len L n1
      have hlF2 : (F.length : Int) ≤ 1048576 := by omega
      have hLi : Hid (∀ b ∈ F, Listed L b) := by rw [← hFF.out]; exact hid (listed_first HF.out)
      obtain ⟨aF, cF, rfl⟩ := slice_of_own hmid.out.own
      have c1 : wr.cell? ⟨pc, 1, none⟩ = some (.pointer (some ⟨pk, 0, none⟩)) := by rw [hmid.out.pc.cell]; rfl
      have d4 : wr.cell? ⟨pc, 4, none⟩ = some (.slice aF F.length cF) := by rw [hmid.out.pc.cell]; rfl
      have d5 : wr.cell? ⟨pc, 5, none⟩ = some (.slice none 0 0) := by rw [hmid.out.pc.cell]; rfl
      go_wp2
      obtain ⟨v5, w5, hr5, hown5, hg5⟩ := zeros_run F.length (by omega) wr.drew
      obtain ⟨aE, cE, rfl⟩ := slice_of_own hown5
      replace hr5 := hid hr5; replace hown5 := hid hown5; replace hg5 := hid hg5
      have b5 := hid (grow_blk hg5.out (hmid.out.pc.drew) (by simp))
      have d55 : w5.cell? ⟨pc, 5, none⟩ = some (.slice none 0 0) := by rw [b5.out.cell]; rfl
      have f55 := b5.out.frozen 5
      have hsl := slice0b
      have d45 : w5.cell? ⟨pc, 4, none⟩ = some (.slice aF F.length cF) := by rw [b5.out.cell]; rfl
      have o := HO.out
      have hS1 : gS < w.heap.size := HS.out.lt
      have hM1 : gM < w.heap.size := HM.out.lt
      have q1 : pc ≠ gS := by have := o.o2; have := o.o3; have := o.o4; have := o.o5; have := o.o6; have := o.o7; have := o.o8; omega
      have q2 : pc ≠ gM := by have := o.o3; have := o.o4; have := o.o5; have := o.o6; have := o.o7; have := o.o8; omega
      have q3 : gS ≠ gM := by have := o.o2; omega
      have M2 := hid (mid2_start hmid.out hpcl hS1 hM1 q1 q2 hown5.out ⟨hg5.out.os, hg5.out.tape, hg5.out.output, hg5.out.size, hg5.out.block⟩)
      obtain ⟨b1, hb1⟩ : ∃ u, Hid (wr.heap.size = u) := ⟨_, rfl⟩
      obtain ⟨b2, hb2⟩ : ∃ u, Hid (w5.heap.size = u) := ⟨_, rfl⟩
      rw [hb1.out, hb2.out] at M2
      go_cut [] from 96 to 109 (fun wx => Hid (Mid2 L w wx pl pk pc gS n3 gM n8 b1 b2 F (.slice aF F.length cF) (.slice aE F.length cE) (.slice none 0 0) Z (List.replicate n8 0) [] (List.replicate F.length false)))
      case first =>
        go_region_law (refine step_append_run rfl (.tmp 101) (.tmp 106) 32 3 rfl _ _ rfl rfl _ _ (hr5.out _) ?_)
        all_goals (go_wp2_with fail; go_meet; exact M2)
      case rest =>
      clear hmid c1 d4 d5 hr5 hown5 hg5 b5 d55 f55 hsl d45 hb1 hb2 o M2
      have d4 : wc.cell? ⟨pc, 4, none⟩ = some (.slice aF F.length cF) := by rw [hcut.out.mid.pc.cell]; rfl
      go_wp2
      go_loopw [7] (fun i wr => ∃ (j : Nat) (aS : Option Addr) (cS : Nat) (M : List Int) (H : List Bool), j ≤ F.length ∧ i = .int .i64 ((j : Int) - 1) ∧ Hid (Mid2 L w wr pl pk pc gS n3 gM n8 b1 b2 F (.slice aF F.length cF) (.slice aE F.length cE) (.slice aS (strS L (F.drop j)).length cS) Z M (strS L (F.drop j)) H) ∧ Hid (MinIs L (F.drop j) M) ∧ Hid (EarIs L F j H)) (fun i _ => (intOf i + 1).toNat)
      case atStart =>
        refine ⟨F.length, none, 0, List.replicate n8 0, List.replicate F.length false, Nat.le_refl _, rfl, ?_, ?_, hid (EarIs.start L F)⟩
        · rw [List.drop_length]; exact hcut
        · rw [List.drop_length, ← HN.out.l8]; exact hid (MinIs.start L)
      case round =>
        obtain ⟨j, aS, cS, M, H, hj, rfl, hm2, hmi, hea⟩ := hrel
        rcases j with _ | j
        case zero =>
          have e1 : ((0 : Nat) : Int) - 1 = -1 := rfl
          rw [e1]
          clear e1
          rw [List.drop_zero] at hm2 hmi
          obtain ⟨S, hSS⟩ : ∃ S, Hid (strS L F = S) := ⟨_, rfl⟩
          rw [hSS.out] at hm2
          have hseq : Hid (∀ d ∈ F, 1 ≤ L.seq.getD d 0) := hid (fun d hd => (hLi.out d hd).full.seq1)
          have hSl : (S.length : Int) ≤ 1048576 := by have h1 := strS_len L F; rw [hSS.out] at h1; omega
          have cp8 : wr.cell? ⟨pc, 8, none⟩ = some (.slice aS S.length cS) := by rw [hm2.out.mid.pc.cell]; rfl
          go_wp2
          obtain ⟨wq, rfl⟩ : ∃ x, x = wr := ⟨_, rfl⟩
          go_loopw [244] (fun i wx => ∃ (q : Nat) (M : List Int), q ≤ S.length ∧ i = .int .i64 q ∧ Hid (Mid2 L w wx pl pk pc gS n3 gM n8 b1 b2 F (.slice aF F.length cF) (.slice aE F.length cE) (.slice aS S.length cS) Z M S H) ∧ Hid (CleanIs L F q M)) (fun i _ => S.length - (intOf i).toNat)
          case atStart => exact ⟨0, M, Nat.zero_le _, rfl, hm2, hid (CleanIs.start hmi.out)⟩
          case round =>
            clear hm2 hmi cp8
            clear M
            obtain ⟨q, M, hq, rfl, hx2, hcl⟩ := hrel
            by_cases hlt2 : q < S.length
            · have hlt2' : (q : Int) < (S.length : Int) := by omega
              have hq2 : q < (strS L F).length := by rw [hSS.out]; exact hlt2
              obtain ⟨s, hs⟩ : ∃ s, Hid ((strS L F)[q] = s) := ⟨_, hid rfl⟩
              have hsd : s ∈ strS L F := by rw [← hs.out]; exact List.getElem_mem hq2
              obtain ⟨d, hdD, hds⟩ := (strS_mem hseq.out).1 hsd
              have l8 : s < n8 := by rw [← HN.out.l8, ← hds]; exact (hLi.out d hdD).full.lst
              have hs2 : Hid (S[q]? = some s) := hid (by rw [← hSS.out, List.getElem?_eq_getElem hq2, hs.out])
              clear hds hsd
              obtain ⟨gT, rfl, hgT1, hgT2, hgT3⟩ := own_some hx2.out.str (by omega)
              have cq : wr.cell? ⟨gT, q, none⟩ = some (.int .i32 (s : Int)) := by
                rw [(own_cell hx2.out.str rfl hlt2).1]; simp [natsZ, ints, hs2.out]
              have is8 : (s : Int) < (n8 : Int) := by omega
              have in8 : (n8 : Int) ≤ 1048576 := by have := HN.out.sum; omega
              have cp7 : wr.cell? ⟨pc, 7, none⟩ = some (.slice (some ⟨gM, 0, none⟩) n8 n8) := by rw [hx2.out.mid.pc.cell]; rfl
              have hMl : s < M.length := by rw [hcl.out.1]; have := HN.out.l8; omega
              have cM := hx2.out.mid.gM.int hMl
              have fM := hx2.out.mid.gM.frozen s
              go_wp2
              go_roundw
              case rel =>
                have h9 := hcl.out.more hq2 (by rw [hs.out]; have := HN.out.l8; omega)
                rw [hs.out] at h9
                exact ⟨q + 1, M.set s 0, by omega, by go_num, hid (hx2.out.min s 0 hM1 q2 q3), hid h9⟩
              case measure => simp [intOf]; omega
            · have ek : S.length = q := by omega
              subst ek
              have cp8 : wr.cell? ⟨pc, 8, none⟩ = some (.slice aS S.length cS) := by rw [hx2.out.mid.pc.cell]; rfl
              have f8 := hx2.out.mid.pc.frozen 8
              have hsl := slice0g aS S.length cS
              go_wp2
              go_end0
              have hM0 : M = List.replicate n8 0 := by
                have h1 := hcl.out; rw [← hSS.out] at h1
                exact all_zero (by rw [h1.1, HN.out.l8]) (fun s hs => h1.done hseq.out s (by rw [HN.out.l8]; exact hs))
              have hH0 := hea.out.done
              subst hM0 hH0
              have h7 := hx2.out.last (.slice aS 0 cS) hpcl q1 q2
              rw [hFF.out]
              exact ⟨rfl, _, _, aS, cS, Z, h7.1, h7.2⟩
        case succ =>
          have e1 : ((j + 1 : Nat) : Int) - 1 = (j : Int) := by omega
          rw [e1]
          clear e1
          have hjl : (j : Int) < (F.length : Int) := by omega
          have hs := stat_keeps HST.out HO.out hpcl hm2.out.mid.kp
          obtain ⟨gF, rfl, hgF1, hgF2, hgF3⟩ := own_some hm2.out.mid.own (by omega)
          obtain ⟨gY, rfl, hgY1, hgY2, hgY3⟩ := own_some hm2.out.ear (by omega)
          obtain ⟨b, hb⟩ : ∃ b, Hid (F.getD j 0 = b) := ⟨_, rfl⟩
          have hbF : b ∈ F := by rw [← hb.out]; simp [List.getD, show j < F.length by omega]
          have hfu := hid (hLi.out b hbF).full
          have cb : wr.cell? ⟨gF, j, none⟩ = some (.int .i32 (b : Int)) := by
            rw [(own_cell hm2.out.mid.own rfl (show j < F.length by omega)).1, ← hb.out]; simp [natsZ, ints, List.getD, show j < F.length by omega]
          have cp4 : wr.cell? ⟨pc, 4, none⟩ = some (.slice (some ⟨gF, 0, none⟩) F.length cF) := by rw [hm2.out.mid.pc.cell]; rfl
          obtain ⟨sc, hsc⟩ : ∃ s, Hid (L.scN b = s) := ⟨_, rfl⟩
          obtain ⟨wd, hwd⟩ : ∃ s, Hid (L.wdN b = s) := ⟨_, rfl⟩
          obtain ⟨rr, hrr⟩ : ∃ s, Hid (L.rowN b = s) := ⟨_, rfl⟩
          have hn := HN.out
          have hl4 : b < n4 := by rw [← hn.l4]; exact hfu.out.l4
          have hl5 : b < n5 := by rw [← hn.l5]; exact hfu.out.l5
          have hl6 : b < n6 := by rw [← hn.l6]; exact hfu.out.l6
          have hl7 : b < n7 := by rw [← hn.l7]; exact hfu.out.l7
          have hl8 : L.stN b < n8 := by rw [← hn.l8]; exact hfu.out.lst
          have hl10 : sc < n10 := by rw [← hn.l10, ← hsc.out]; exact hfu.out.lsc
          obtain ⟨g4, o4, ea4, hg4, hc4⟩ := hs.r4.2 (by omega)
          subst ea4
          obtain ⟨g5, o5, ea5, hg5, hc5⟩ := hs.r5.2 (by omega)
          subst ea5
          obtain ⟨g6, o6, ea6, hg6, hc6⟩ := hs.r6.2 (by omega)
          subst ea6
          obtain ⟨g7, o7, ea7, hg7, hc7⟩ := hs.r7.2 (by omega)
          subst ea7
          obtain ⟨g8, o8, ea8, hg8, hc8⟩ := hs.r8.2 (by omega)
          subst ea8
          obtain ⟨g10, o10, ea10, hg10, hc10⟩ := hs.r10.2 (by omega)
          subst ea10
          have k4 := hs.k4
          have cs4 : wr.cell? ⟨g4, o4 + b, none⟩ = some (.int .i32 (sc : Int)) := by rw [hc4 b hl4, hfu.out.esc, hsc.out]
          have cr7 : wr.cell? ⟨g7, o7 + b, none⟩ = some (.int .i64 (rr : Int)) := by rw [hc7 b hl7, hfu.out.erow, hrr.out]
          have cw10 : wr.cell? ⟨g10, o10 + sc, none⟩ = some (.int .i32 (wd : Int)) := by rw [hc10 sc hl10, ← hsc.out, hfu.out.ewd, hwd.out]
          have hrw : rr + wd ≤ n11 := by rw [← hrr.out, ← hwd.out, ← hn.l11]; exact hfu.out.lrow
          have HSt := hid hs
          have in4 : (n4 : Int) ≤ 1048576 := by have := hn.sum; omega
          have i4 : (b : Int) < (n4 : Int) := by omega
          have k7 := hs.k7; have k10 := hs.k10; have k11 := hs.k11
          have HOF := hid (fun nd => of_any pk b rr sc wd g7 o7 n7 c7 n11 n11 g10 o10 n10 c10 g4 o4 n4 c4 a11 (wr.drewN nd) k7 k11 k10 k4 cr7 cs4 cw10 hl7 hl4 hl10 hrw (by have := hn.sum; omega) (by have := hn.sum; omega) (by have := hn.sum; omega) (by have := hn.sum; omega))
          obtain ⟨ar, har⟩ : ∃ a, Hid (cutA a11 n11 rr = a) := ⟨_, rfl⟩
          rw [har.out] at HOF
          clear k7 k10 k11 cr7 cw10
          clear hc5
          clear hc6
          clear hc7
          clear hc8
          clear hc10
          clear hc4
          obtain ⟨D, hD⟩ : ∃ D, Hid (F.drop (j + 1) = D) := ⟨_, rfl⟩
          rw [hD.out] at hm2 hmi
          obtain ⟨S, hSS⟩ : ∃ S, Hid (strS L D = S) := ⟨_, rfl⟩
          rw [hSS.out] at hm2
          have hseq : Hid (∀ d ∈ D, 1 ≤ L.seq.getD d 0) := hid (fun d hd => (hLi.out d (List.mem_of_mem_drop (by rw [hD.out]; exact hd))).full.seq1)
          have hSl : (S.length : Int) ≤ 1048576 := by have h1 := strS_len L D; rw [hSS.out] at h1; have h2 : D.length ≤ F.length := by { rw [← hD.out]; simp }; omega
          have cp8 : wr.cell? ⟨pc, 8, none⟩ = some (.slice aS S.length cS) := by rw [hm2.out.mid.pc.cell]; rfl
          clear hs hn
          go_wp2
          go_quiet ((go_at_call 20; refine Calls.quiet_of (HOF.out _)))
          go_upto_block 4 with fail
          go_cut [] from 142 to 181 (fun wx => ∃ H1 : List Bool, Hid (Mid2 L w wx pl pk pc gS n3 gM n8 b1 b2 F (.slice (some ⟨gF, 0, none⟩) F.length cF) (.slice (some ⟨gY, 0, none⟩) F.length cE) (.slice aS S.length cS) Z M S H1) ∧ Hid (EarIs L F j H1))
          case first =>
            clear HOF cb cp4 cs4 k4 cp8 HSt
            obtain ⟨wq, rfl⟩ : ∃ x, x = wr := ⟨_, rfl⟩
            go_wp2_with fail
            go_loopw [142] (fun i wx => ∃ q : Nat, q ≤ S.length ∧ i = .int .i64 q ∧ Hid (Mid2 L w wx pl pk pc gS n3 gM n8 b1 b2 F (.slice (some ⟨gF, 0, none⟩) F.length cF) (.slice (some ⟨gY, 0, none⟩) F.length cE) (.slice aS S.length cS) Z M S H) ∧ Hid (∀ x, x < q → ¬ Hits L b D S x)) (fun i _ => S.length - (intOf i).toNat)
            case atStart => exact ⟨0, Nat.zero_le _, rfl, hid (hm2.out.drewN _), hid (fun x hx => absurd hx (by omega))⟩
            case round =>
              clear hm2
              obtain ⟨q, hq, rfl, hx2, hno⟩ := hrel
              by_cases hlt2 : q < S.length
              · have hlt2' : (q : Int) < (S.length : Int) := by omega
                obtain ⟨s, hs⟩ : ∃ s, Hid (S.getD q 0 = s) := ⟨_, rfl⟩
                have hsS : s ∈ S := by rw [← hs.out]; simp [List.getD, hlt2]
                have hsd := hsS; rw [← hSS.out] at hsd
                obtain ⟨d, hdD, hds⟩ := (strS_mem hseq.out).1 hsd
                have hfd := hid (hLi.out d (List.mem_of_mem_drop (by rw [hD.out]; exact hdD))).full
                replace hds := hid hds
                clear hsd
                obtain ⟨gT, rfl, hgT1, hgT2, hgT3⟩ := own_some hx2.out.str (by omega)
                have cq : wr.cell? ⟨gT, q, none⟩ = some (.int .i32 (s : Int)) := by
                  rw [(own_cell hx2.out.str rfl hlt2).1, ← hs.out]; simp [natsZ, ints, List.getD, hlt2]
                have st := hid (stat_keeps HST.out HO.out hpcl hx2.out.mid.kp)
                have l8 : s < n8 := by rw [← HN.out.l8, ← hds.out]; exact hfd.out.lst
                have is8 : (s : Int) < (n8 : Int) := by omega
                have in8 : (n8 : Int) ≤ 1048576 := by have := HN.out.sum; omega
                have k8 := st.out.k8
                obtain ⟨z1, hz1⟩ : ∃ z, Hid (L.ss.getD s 0 = z) := ⟨_, rfl⟩
                have c8a : wr.cell? ⟨g8, o8 + s, none⟩ = some (.int .i32 z1) := by rw [rowb_at st.out.r8 l8, hz1.out]
                by_cases e1 : z1 = (sc : Int)
                · subst e1
                  have hsl := hfd.out.slot sc (by have := HN.out.l10; omega) (by rw [hds.out, hz1.out])
                  rw [hds.out] at hsl
                  obtain ⟨sl1, sl2, sl3⟩ := hsl
                  obtain ⟨sl, hsl⟩ : ∃ s2, Hid (L.slN s = s2) := ⟨_, rfl⟩
                  rw [hsl.out] at sl2 sl3
                  have sl4 : sl < wd := by have := hfu.out.ewd; rw [hsc.out, hwd.out] at this; omega
                  have l9 : s < n9 := by have := HN.out.l9; omega
                  obtain ⟨g9, o9, ea9, hg9, hc9⟩ := st.out.r9.2 (by omega)
                  subst ea9
                  obtain ⟨g11, o11, ea11, hg11, hc11⟩ := st.out.r11.2 (by omega)
                  subst ea11
                  have ear1 : ar = some ⟨g11, o11 + rr, none⟩ := by rw [← har.out, cutA_some _ _ _ _ (by omega)]
                  subst ear1
                  have k9 := st.out.k9
                  have c9a : wr.cell? ⟨g9, o9 + s, none⟩ = some (.int .i32 (sl : Int)) := by rw [hc9 s l9, sl2]
                  obtain ⟨z3, hz3⟩ : ∃ z, Hid (L.rows.getD (rr + sl) 0 = z) := ⟨_, rfl⟩
                  have c11a : wr.cell? ⟨g11, o11 + rr + sl, none⟩ = some (.int .i32 z3) := by rw [Nat.add_assoc, hc11 (rr + sl) (by omega), hz3.out]
                  obtain ⟨z2, hz2⟩ : ∃ z, Hid (M.getD s 0 = z) := ⟨_, rfl⟩
                  have hmin : Hid (minS L s D = z2) := hid (by rw [← hmi.out.2 s (by have := HN.out.l8; omega), hz2.out])
                  have cMa : wr.cell? ⟨gM, s, none⟩ = some (.int .i32 z2) := by rw [hx2.out.mid.gM.int (by rw [hmi.out.1]; have := HN.out.l8; omega), hz2.out]
                  have cp7 : wr.cell? ⟨pc, 7, none⟩ = some (.slice (some ⟨gM, 0, none⟩) n8 n8) := by rw [hx2.out.mid.pc.cell]; rfl
                  have is9 : (s : Int) < (n9 : Int) := by omega
                  have in9 : (n9 : Int) ≤ 1048576 := by have := HN.out.sum; omega
                  have isl : (sl : Int) < (wd : Int) := by omega
                  have iwd : (wd : Int) ≤ 1048576 := by have := HN.out.sum; omega
                  have hH : Hid (Hits L b D S q ↔ z2 ≤ z3) := hid (by
                    unfold Hits; rw [hs.out, hz1.out, hfu.out.esc, hsc.out, hmin.out, hrr.out, hsl.out, hz3.out]
                    exact ⟨fun h => h.2, fun h => ⟨rfl, h⟩⟩)
                  clear hc9 hc11 sl2 sl3
                  by_cases e2 : z2 ≤ z3
                  · have hd2 : decide (z2 ≤ z3) = true := decide_eq_true e2
                    have cp5 : wr.cell? ⟨pc, 5, none⟩ = some (.slice (some ⟨gY, 0, none⟩) F.length cE) := by rw [hx2.out.mid.pc.cell]; rfl
                    have cy : wr.cell? ⟨gY, j, none⟩ = some (.bool (H.getD j false)) := by rw [(own_cell hx2.out.ear rfl (show j < F.length by omega)).1, bls_get _ _ (by rw [hea.out.1]; omega)]
                    have fy := (own_cell hx2.out.ear rfl (show j < F.length by omega)).2
                    go_wp2
                    go_quiet (fail)
                    go_wp2
                    go_meet
                    refine ⟨H.set j true, hid ((hx2.out.drewN _).early rfl (by omega) hpcl hS1 hM1), hid (hea.out.set (by omega) ?_)⟩
                    rw [hD.out, hb.out]
                    exact hits_any hseq.out (by rw [hSS.out]; exact hlt2) (by rw [hSS.out]; exact hH.out.2 e2)
                  · have hd2 : decide (z2 ≤ z3) = false := decide_eq_false e2
                    go_wp2
                    go_quiet (fail)
                    go_wp2
                    go_roundw
                    case rel =>
                      refine ⟨q + 1, by omega, by go_num, hid (hx2.out.drewN _), hid (fun x hx => ?_)⟩
                      rcases Nat.lt_or_ge x q with h | h
                      · exact hno.out x h
                      · obtain rfl : x = q := by omega
                        intro h2; have := hH.out.1 h2; omega
                    case measure => simp [intOf]; omega
                · have hd1 : decide (z1 = (sc : Int)) = false := decide_eq_false e1
                  go_wp2
                  go_quiet (fail)
                  go_wp2
                  go_roundw
                  case rel =>
                    refine ⟨q + 1, by omega, by go_num, hid (hx2.out.drewN _), hid (fun x hx => ?_)⟩
                    rcases Nat.lt_or_ge x q with h | h
                    · exact hno.out x h
                    · obtain rfl : x = q := by omega
                      intro h2; have h3 := h2.1; rw [hs.out, hz1.out, hfu.out.esc, hsc.out] at h3; exact e1 h3
                  case measure => simp [intOf]; omega
              · have ek : S.length = q := by omega
                subst ek
                go_wp2
                go_meet
                refine ⟨H, hx2, hid (hea.out.stay (by omega) ?_)⟩
                rw [hD.out, hb.out]
                exact hits_none hseq.out (by rw [hSS.out]; exact hno.out)
          case rest =>
            obtain ⟨H1, hm3, he3⟩ := hcut
            clear HOF cb cp4 cs4 k4 cp8 HSt hm2 hea
            have st := hid (stat_keeps HST.out HO.out hpcl hm3.out.mid.kp)
            obtain ⟨s, hs⟩ : ∃ s, Hid (L.stN b = s) := ⟨_, rfl⟩
            obtain ⟨zq, hzq⟩ : ∃ s, Hid (L.seq.getD b 0 = s) := ⟨_, rfl⟩
            rw [hs.out] at hl8
            have k5 := st.out.k5; have k6 := st.out.k6
            have c5a : wc.cell? ⟨g5, o5 + b, none⟩ = some (.int .i32 (s : Int)) := by rw [rowb_at st.out.r5 hl5, hfu.out.est, hs.out]
            have c6a : wc.cell? ⟨g6, o6 + b, none⟩ = some (.int .i32 zq) := by rw [rowb_at st.out.r6 hl6, hzq.out]
            have lo_q : -2147483648 ≤ zq := by rw [← hzq.out]; exact (hL.seq b).1
            have hi_q : zq ≤ 2147483647 := by rw [← hzq.out]; exact (hL.seq b).2
            have cp7 : wc.cell? ⟨pc, 7, none⟩ = some (.slice (some ⟨gM, 0, none⟩) n8 n8) := by rw [hm3.out.mid.pc.cell]; rfl
            have cp8 : wc.cell? ⟨pc, 8, none⟩ = some (.slice aS S.length cS) := by rw [hm3.out.mid.pc.cell]; rfl
            obtain ⟨z0, hz0⟩ : ∃ z, Hid (M.getD s 0 = z) := ⟨_, rfl⟩
            have hmin : Hid (minS L s D = z0) := hid (by rw [← hmi.out.2 s (by have := HN.out.l8; omega), hz0.out])
            have hMl : Hid (s < M.length) := hid (by rw [hmi.out.1]; have := HN.out.l8; omega)
            have cM : wc.cell? ⟨gM, s, none⟩ = some (.int .i32 z0) := by rw [hm3.out.mid.gM.int hMl.out, hz0.out]
            have fM := hm3.out.mid.gM.frozen s
            have i5 : (b : Int) < (n5 : Int) := by omega
            have in5 : (n5 : Int) ≤ 1048576 := by have := HN.out.sum; omega
            have i6 : (b : Int) < (n6 : Int) := by omega
            have in6 : (n6 : Int) ≤ 1048576 := by have := HN.out.sum; omega
            have i8 : (s : Int) < (n8 : Int) := by omega
            have in8 : (n8 : Int) ≤ 1048576 := by have := HN.out.sum; omega
            have hdr : Hid (F.drop j = b :: D) := hid (drop_at (by omega) hb.out hD.out)
            have q2s : gM ≠ pc := fun e => q2 e.symm
            by_cases e0 : z0 = 0
            · subst e0
              go_wp2
              go_quiet (fail)
              have A3 := hid ((hm3.out.drewN nq).alloc (.cells #[.int .i32 (s : Int)] 21))
              have cell3 := hid (one_new0 (wc.drewN nq) (.int .i32 (s : Int)) 21)
              obtain ⟨i0, hi, hz0x, hz1, hz2⟩ := info_parts Try.info21
              have mx1 : S.length + 1 ≤ maxLen := by simp only [maxLen]; omega
              have mx2 : (S.length + 1) * 4 ≤ 140737488355328 := by omega
              have hb3 : b2 ≤ ((wc.drewN nq).alloc (.cells #[.int .i32 (s : Int)] 21)).heap.size := A3.out.lb3
              have one3 : Hid (∀ u ∈ [Value.int .i32 (s : Int)], u.oneCell' = true) := hid (by intro u hu; simp only [List.mem_singleton] at hu; subst hu; rfl)
              have nb : some pc ≠ (Value.slice aS S.length cS).ownBlock := ownBlock_ge A3.out.str (by have := hm3.out.lb1; have := hm3.out.lb2; omega)
              have nbM : some gM ≠ (Value.slice aS S.length cS).ownBlock := ownBlock_ge A3.out.str (by have := hm3.out.lb1; have := hm3.out.lb2; omega)
              go_wp2_with (at_builtin; refine wpList_append_own _ rfl (.tmp 209) (.tmp 211) 29 rfl b2 21 i0 (.int .i32 0) 1 4 Try.underlying29 hi hz0x hz1 hz2 rfl (by omega) (.slice aS S.length cS) _ _ rfl A3.out.str ⟨wc.heap.size, 0, none⟩ 1 1 [.int .i32 (s : Int)] rfl rfl cell3.out one3.out mx1 mx2 hb3 ?_; intro v5 w5 hown5 hgrow5 hiff5; obtain ⟨aX, cX, rfl⟩ := slice_of_own hown5; replace hown5 := hid hown5; replace hgrow5 := hid hgrow5; clear hiff5; have b5 := hid (grow_blk hgrow5.out A3.out.mid.pc nb); have bM5 := hid (grow_blk hgrow5.out A3.out.mid.gM nbM); have c85 : w5.cell? ⟨pc, 8, none⟩ = some (.slice aS S.length cS) := by { rw [b5.out.cell]; rfl }; have f85 := b5.out.frozen 8; have c75 : w5.cell? ⟨pc, 7, none⟩ = some (.slice (some ⟨gM, 0, none⟩) n8 n8) := by { rw [b5.out.cell]; rfl }; have cM5 : w5.cell? ⟨gM, s, none⟩ = some (.int .i32 0) := by { rw [bM5.out.int hMl.out, hz0.out] }; have fM5 := bM5.out.frozen s)
              go_roundw
              case rel =>
                have eS : strS L (F.drop j) = S ++ [s] := by rw [hdr.out, strS, hs.out, hmin.out, if_pos rfl, hSS.out]
                refine ⟨j, aX, cX, M.set s zq, H1, by omega, rfl, ?_, ?_, he3⟩
                · rw [eS, List.length_append, List.length_singleton]; exact hid ((A3.out.push hpcl hS1 hM1 q1 q2 hgrow5.out hown5.out).min s zq hM1 q2 q3)
                · rw [hdr.out]
                  have h9 := MinIs.zero (d := b) hmi.out (by rw [hs.out]; have := HN.out.l8; omega) (by rw [hs.out]; exact hmin.out)
                  rw [hs.out, hzq.out] at h9; exact hid h9
              case measure => simp [intOf]
            · have hd0 : decide (z0 = 0) = false := decide_eq_false e0
              have eS : Hid (strS L (F.drop j) = S) := hid (by rw [hdr.out, strS, hs.out, hmin.out, if_neg e0, hSS.out])
              have e0' := hid e0
              by_cases e1 : zq < z0
              · have hd1 : decide (zq < z0) = true := decide_eq_true e1
                have e1' := hid e1
                go_wp2
                go_quiet (fail)
                go_wp2
                go_roundw
                case rel =>
                  refine ⟨j, aS, cS, M.set s zq, H1, by omega, rfl, ?_, ?_, he3⟩
                  · rw [eS.out]; exact hid ((hm3.out.drewN _).min s zq hM1 q2 q3)
                  · rw [hdr.out]
                    have h9 := MinIs.less (d := b) hmi.out (by rw [hs.out]; have := HN.out.l8; omega) (by rw [hs.out, hmin.out]; exact e0'.out) (by rw [hs.out, hmin.out, hzq.out]; exact e1'.out)
                    rw [hs.out, hzq.out] at h9; exact hid h9
                case measure => simp [intOf]
              · have hd1 : decide (zq < z0) = false := decide_eq_false e1
                have e1' := hid e1
                go_wp2
                go_quiet (fail)
                go_wp2
                go_roundw
                case rel =>
                  refine ⟨j, aS, cS, M, H1, by omega, rfl, ?_, ?_, he3⟩
                  · rw [eS.out]; exact hid (hm3.out.drewN _)
                  · rw [hdr.out]
                    exact hid (MinIs.stay (d := b) hmi.out (by rw [hs.out, hmin.out]; exact e0'.out) (by rw [hs.out, hmin.out, hzq.out]; exact Int.not_lt.2 e1'.out))
                case measure => simp [intOf]
end Go.Proofs.Qxb6603398a
