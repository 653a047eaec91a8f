/-
  THE LAW's OWN WALK: helpers, and the case 'not in the class'.
-/
import Derived.Test.Qxb6602619aWalkF
import Derived.Deep.RegionWith
namespace Go.Proofs.Qxb6602619a
open Go.RowKit Mem Plain
set_option linter.unusedVariables false

theorem fst_drop (ps : List (Int × Int)) (h : Nat) : (ps.map (·.1)).drop h = (ps.drop h).map (·.1) := by rw [List.map_drop]
theorem snd_drop (ps : List (Int × Int)) (h : Nat) : (ps.map (·.2)).drop h = (ps.drop h).map (·.2) := by rw [List.map_drop]

theorem fst_getD (ps : List (Int × Int)) (k : Nat) (h : k < ps.length) : (ps.map (·.1)).getD k 0 = (ps.getD k (0, 0)).1 := by simp [List.getD, h]
theorem snd_getD (ps : List (Int × Int)) (k : Nat) (h : k < ps.length) : (ps.map (·.2)).getD k 0 = (ps.getD k (0, 0)).2 := by simp [List.getD, h]
theorem below_chain {w w1 w2 w3 w4 w5 w6 w7 : World} (h1 : Below w.heap.size w w1) (h2 : Below w1.heap.size w1 w2) (h3 : Below w2.heap.size w2 w3) (h4 : Below w3.heap.size w3 w4) (h5 : Below w4.heap.size w4 w5) (h6 : Below w5.heap.size w5 w6) (h7 : Below w6.heap.size w6 w7) : Below w.heap.size w w7 := by
  have s1 := h1.size; have s2 := h2.size; have s3 := h3.size; have s4 := h4.size; have s5 := h5.size; have s6 := h6.size
  exact (((((h1.trans (h2.mono (by omega))).trans (h3.mono (by omega))).trans (h4.mono (by omega))).trans (h5.mono (by omega))).trans (h6.mono (by omega))).trans (h7.mono (by omega))

set_option maxRecDepth 20000 in
set_option maxHeartbeats 4000000 in
/-- Not in the class. -/
theorem law_out (a0 a1 : Option Addr) (n c0 c1 h : Nat) (ps : List (Int × Int)) (w : World) (index most : Int) (h0 : Row .i64 w a0 n (ps.map (·.1))) (h1 : Row .i64 w a1 n (ps.map (·.2))) (hn : n ≤ 65536) (ha0 : a0 = none → n = 0 ∧ c0 = 0) (ha1 : a1 = none → n = 0 ∧ c1 = 0)
    (hh : h ≤ n) (hr : ∀ q ∈ ps, -9223372036854775808 ≤ q.1 ∧ q.2 ≤ 9223372036854775807) (hle : h < n → (ps.map (·.2)).getD (n - 1) 0 ≤ index) :
    Calls Try.prog 5 #[.slice a0 n c0, .slice a1 n c1, .int .i64 h, .int .i64 index, .bool false, .int .i64 most] w (TrueRet w) := by
  have H0 := hid h0
  have H1 := hid h1
  have HA0 := hid ha0
  have HA1 := hid ha1
  have HR := hid hr
  have HLE := hid hle
  have HL : Hid (ps.length = n) := hid (by have := h0.1; simpa using this)
  clear h0 h1 ha0 ha1 hr hle
  go_enter Try.func5, Try.ntmps5
  go_wp2_with fail
  refine (bytes_any a0 a1 n c0 n c1 _ _ _ _ _ (by unfold maxLen; omega) (by unfold maxLen; omega)).mono ?_
  rintro e w' ⟨b, rfl, rfl⟩
  cases b
  · go_wp2
    go_ret
    exact ⟨rfl, Below.refl _ _⟩
  go_wp2_with fail
  refine (live_any a0 a1 n c0 c1 h (ps.map (·.1)) (ps.map (·.2)) w H0.out H1.out hh hn).mono ?_
  rintro e w1 ⟨b, rfl, hwf, hb1⟩
  have HWF := hid hwf
  clear hwf
  cases b
  · go_wp2
    go_ret
    exact ⟨rfl, hb1⟩
  have HCH : Hid (Chain (ps.drop h)) := hid (WF.chain (by rw [HL.out]; exact HWF.out (by simp)))
  have HLE2 : Hid (h < n → (ps.getD (n - 1) (0, 0)).2 ≤ index) := hid (fun hlt => by
    have h1 := HLE.out hlt
    have h2 : (ps.map (·.2)).getD (n - 1) 0 = (ps.getD (n - 1) (0, 0)).2 := by simp [List.getD, show n - 1 < ps.length by rw [HL.out]; omega]
    rw [h2] at h1
    exact h1)
  clear HWF
  by_cases hlt : h < n
  · obtain ⟨b1, o1, e1, hbl1, hc1⟩ := H1.out.2 (by omega)
    subst e1
    have c1k : w1.cell? ⟨b1, o1 + (n - 1), none⟩ = some (.int .i64 ((ps.map (·.2)).getD (n - 1) 0)) := by rw [hb1.cell (p := ⟨b1, o1 + (n - 1), none⟩) hbl1]; exact hc1 (n - 1) (by omega)
    have hle := HLE.out hlt
    generalize (ps.map (·.2)).getD (n - 1) 0 = l at c1k hle
    clear hc1
    go_wp2_with fail
    refine (copy_all a0 n c0 (ps.map (·.1)) w1 (H0.out.below hb1) HA0.out hn).mono ?_
    rintro e w2 ⟨d0, rfl, hr0, hb2⟩
    have R0 := hid hr0
    clear hr0
    go_wp2_with fail
    refine (copy_all _ n c1 (ps.map (·.2)) w2 ((H1.out.below hb1).below hb2) HA1.out hn).mono ?_
    rintro e w3 ⟨d1, rfl, hr1, hb3⟩
    have R1 := hid hr1
    clear hr1
    have s0 := slice_cut d0 n h hh
    have s1 := slice_cut d1 n h hh
    have hnh : n - h ≤ 65536 := by omega
    go_wp2_with fail
    have HCL := hid (clip_any (cutA d0 n h) (cutA d1 n h) (n - h) (n - h) (n - h) index index ((ps.drop h).map (·.1)) ((ps.drop h).map (·.2)) w3.drew (by rw [← fst_drop]; exact (row_cut (R0.out.below hb3.drew) hh)) (by rw [← snd_drop]; exact (row_cut R1.out.drew hh)) hnh)
    have hL : clip index index ((ps.drop h).map (·.1)) ((ps.drop h).map (·.2)) (n - h) = clipQ index index (ps.drop h) := by
      rw [show n - h = (ps.drop h).length by rw [List.length_drop, HL.out]]; exact clip_eq _ _ _
    rw [hL] at HCL
    clear hL
    obtain ⟨L, hLL⟩ : ∃ L, Hid (clipQ index index (ps.drop h) = L) := ⟨_, rfl⟩
    rw [hLL.out] at HCL
    go_region_with (go_at_call 15; refine HCL.out.mono ?_; rintro e w4 ⟨e0, f0, e1, f1, rfl, hq0, hq1, hb4⟩)
    have Q0 := hid hq0
    have Q1 := hid hq1
    have hb34 : Below w3.heap.size w3 w4 := ((Below.refl w3.heap.size w3).drew).trans hb4
    have HR0 := hid ((R0.out.below hb3).below hb34)
    have HR1 := hid (R1.out.below hb34)
    clear hq0 hq1 hb4 HCL s0 s1 R0 R1
    go_wp2_with fail
    refine (zread_any d0 d1 n n n h ps w4 index most false index index HR0.out HR1.out hn (fun p g w' hcs hp hg => read_any _ p g n h ps w' index most false index index hcs HL.out hn hh hp hg HCH.out HLE2.out HR.out (.inl ⟨rfl, rfl, rfl⟩))).mono ?_
    rintro e w5 ⟨ps', h', g0, g1, rfl, hz0, hz1, hgood, hb5⟩
    have hlen : ps'.length ≤ n := by have := hgood.len; rw [HL.out] at this; exact this
    have hhd := hgood.head
    have hlive := hid hgood.live
    rw [hLL.out] at hlive
    have HOLD := hid hgood.old
    clear hgood
    have Z0 := hid hz0
    have Z1 := hid hz1
    clear hz0 hz1
    obtain ⟨m, hm'⟩ : ∃ m, Hid (ps'.length = m) := ⟨_, rfl⟩
    rw [hm'.out] at Z0 Z1 hlen hhd
    rw [hm'.out]
    have t0 := slice_cut g0 m h' hhd
    have t1 := slice_cut g1 m h' hhd
    have hm6 : m - h' ≤ 65536 := by omega
    go_wp2_with fail
    refine (same_two (cutA g0 m h') e0 (m - h') L.length _ _ ((ps'.map (·.1)).drop h') (L.map (·.1)) w5 (row_cut Z0.out hhd) (Q0.out.below hb5) (by rw [fst_drop, hlive.out]) hm6).mono ?_
    rintro e w6 ⟨rfl, hb6⟩
    go_wp2_with fail
    refine (same_two (cutA g1 m h') e1 (m - h') L.length _ _ ((ps'.map (·.2)).drop h') (L.map (·.2)) w6 (row_cut (Z1.out.below hb6) hhd) ((Q1.out.below hb5).below hb6) (by rw [snd_drop, hlive.out]) hm6).mono ?_
    rintro e w7 ⟨rfl, hb7⟩
    clear t0 t1
    have A0 := hid ((HR0.out.below hb5).below hb6 |>.below hb7)
    have A1 := hid ((HR1.out.below hb5).below hb6 |>.below hb7)
    have B0 := hid ((Z0.out.below hb6).below hb7)
    have B1 := hid ((Z1.out.below hb6).below hb7)
    have BEL := hid (below_chain hb1 hb2 hb3 hb34 hb5 hb6 hb7)
    clear HR0 HR1 Z0 Z1 Q0 Q1 hb1 hb2 hb3 hb34 hb5 hb6 hb7 H0 H1
    go_wp2
    go_loopw [21] (fun i wr => ∃ k : Nat, k ≤ h' ∧ i = .int .i64 k ∧ Below w7.heap.size w7 wr) (fun i _ => h' - (intOf i).toNat)
    case atStart => exact ⟨0, Nat.zero_le _, rfl, Below.refl _ _⟩
    case round =>
      obtain ⟨k, hk, rfl, hb⟩ := hrel
      by_cases hkh : k < h'
      · obtain ⟨x0, y0, ex0, bx0, cx0⟩ := (A0.out.below hb).2 (by omega)
        obtain ⟨x1, y1, ex1, bx1, cx1⟩ := (A1.out.below hb).2 (by omega)
        obtain ⟨x2, y2, ex2, bx2, cx2⟩ := (B0.out.below hb).2 (by omega)
        obtain ⟨x3, y3, ex3, bx3, cx3⟩ := (B1.out.below hb).2 (by omega)
        subst ex0 ex1 ex2 ex3
        have E1 : (ps'.map (·.1)).getD k 0 = (ps.map (·.1)).getD k 0 := by
          rw [fst_getD _ _ (by rw [hm'.out]; omega), fst_getD _ _ (by rw [HL.out]; omega), HOLD.out k hkh]
        have E2 : (ps'.map (·.2)).getD k 0 = (ps.map (·.2)).getD k 0 := by
          rw [snd_getD _ _ (by rw [hm'.out]; omega), snd_getD _ _ (by rw [HL.out]; omega), HOLD.out k hkh]
        have z0 := cx0 k (by omega)
        have z1 := cx1 k (by omega)
        have z2 := cx2 k (by omega)
        have z3 := cx3 k (by omega)
        rw [E1] at z2
        rw [E2] at z3
        clear cx0 cx1 cx2 cx3 E1 E2
        generalize (ps.map (·.1)).getD k 0 = fv at z0 z2
        generalize (ps.map (·.2)).getD k 0 = lv at z1 z3
        have i1 : (k : Int) < (n : Int) := by omega
        have i2 : (k : Int) < (m : Int) := by omega
        go_wp2
        go_quiet (fail)
        go_wp2
        go_roundw
        case rel => exact ⟨k + 1, by omega, by go_num, below_drewN hb _⟩
        case measure => simp [intOf]; omega
      · go_wp2
        go_ret
        exact ⟨rfl, BEL.out.trans (hb.mono BEL.out.size)⟩
  · have hd : decide ((h : Int) < (n : Int)) = false := by simp; omega
    go_wp2_with fail
    refine (copy_all a0 n c0 (ps.map (·.1)) w1 (H0.out.below hb1) HA0.out hn).mono ?_
    rintro e w2 ⟨d0, rfl, hr0, hb2⟩
    have R0 := hid hr0
    clear hr0
    go_wp2_with fail
    refine (copy_all _ n c1 (ps.map (·.2)) w2 ((H1.out.below hb1).below hb2) HA1.out hn).mono ?_
    rintro e w3 ⟨d1, rfl, hr1, hb3⟩
    have R1 := hid hr1
    clear hr1
    have s0 := slice_cut d0 n h hh
    have s1 := slice_cut d1 n h hh
    have hnh : n - h ≤ 65536 := by omega
    go_wp2_with fail
    have HCL := hid (clip_any (cutA d0 n h) (cutA d1 n h) (n - h) (n - h) (n - h) index index ((ps.drop h).map (·.1)) ((ps.drop h).map (·.2)) w3.drew (by rw [← fst_drop]; exact (row_cut (R0.out.below hb3.drew) hh)) (by rw [← snd_drop]; exact (row_cut R1.out.drew hh)) hnh)
    have hL : clip index index ((ps.drop h).map (·.1)) ((ps.drop h).map (·.2)) (n - h) = clipQ index index (ps.drop h) := by
      rw [show n - h = (ps.drop h).length by rw [List.length_drop, HL.out]]; exact clip_eq _ _ _
    rw [hL] at HCL
    clear hL
    obtain ⟨L, hLL⟩ : ∃ L, Hid (clipQ index index (ps.drop h) = L) := ⟨_, rfl⟩
    rw [hLL.out] at HCL
    go_region_with (go_at_call 15; refine HCL.out.mono ?_; rintro e w4 ⟨e0, f0, e1, f1, rfl, hq0, hq1, hb4⟩)
    have Q0 := hid hq0
    have Q1 := hid hq1
    have hb34 : Below w3.heap.size w3 w4 := ((Below.refl w3.heap.size w3).drew).trans hb4
    have HR0 := hid ((R0.out.below hb3).below hb34)
    have HR1 := hid (R1.out.below hb34)
    clear hq0 hq1 hb4 HCL s0 s1 R0 R1
    go_wp2_with fail
    refine (zread_any d0 d1 n n n h ps w4 index most false index index HR0.out HR1.out hn (fun p g w' hcs hp hg => read_any _ p g n h ps w' index most false index index hcs HL.out hn hh hp hg HCH.out HLE2.out HR.out (.inl ⟨rfl, rfl, rfl⟩))).mono ?_
    rintro e w5 ⟨ps', h', g0, g1, rfl, hz0, hz1, hgood, hb5⟩
    have hlen : ps'.length ≤ n := by have := hgood.len; rw [HL.out] at this; exact this
    have hhd := hgood.head
    have hlive := hid hgood.live
    rw [hLL.out] at hlive
    have HOLD := hid hgood.old
    clear hgood
    have Z0 := hid hz0
    have Z1 := hid hz1
    clear hz0 hz1
    obtain ⟨m, hm'⟩ : ∃ m, Hid (ps'.length = m) := ⟨_, rfl⟩
    rw [hm'.out] at Z0 Z1 hlen hhd
    rw [hm'.out]
    have t0 := slice_cut g0 m h' hhd
    have t1 := slice_cut g1 m h' hhd
    have hm6 : m - h' ≤ 65536 := by omega
    go_wp2_with fail
    refine (same_two (cutA g0 m h') e0 (m - h') L.length _ _ ((ps'.map (·.1)).drop h') (L.map (·.1)) w5 (row_cut Z0.out hhd) (Q0.out.below hb5) (by rw [fst_drop, hlive.out]) hm6).mono ?_
    rintro e w6 ⟨rfl, hb6⟩
    go_wp2_with fail
    refine (same_two (cutA g1 m h') e1 (m - h') L.length _ _ ((ps'.map (·.2)).drop h') (L.map (·.2)) w6 (row_cut (Z1.out.below hb6) hhd) ((Q1.out.below hb5).below hb6) (by rw [snd_drop, hlive.out]) hm6).mono ?_
    rintro e w7 ⟨rfl, hb7⟩
    clear t0 t1
    have A0 := hid ((HR0.out.below hb5).below hb6 |>.below hb7)
    have A1 := hid ((HR1.out.below hb5).below hb6 |>.below hb7)
    have B0 := hid ((Z0.out.below hb6).below hb7)
    have B1 := hid ((Z1.out.below hb6).below hb7)
    have BEL := hid (below_chain hb1 hb2 hb3 hb34 hb5 hb6 hb7)
    clear HR0 HR1 Z0 Z1 Q0 Q1 hb1 hb2 hb3 hb34 hb5 hb6 hb7 H0 H1
    go_wp2
    go_loopw [21] (fun i wr => ∃ k : Nat, k ≤ h' ∧ i = .int .i64 k ∧ Below w7.heap.size w7 wr) (fun i _ => h' - (intOf i).toNat)
    case atStart => exact ⟨0, Nat.zero_le _, rfl, Below.refl _ _⟩
    case round =>
      obtain ⟨k, hk, rfl, hb⟩ := hrel
      by_cases hkh : k < h'
      · obtain ⟨x0, y0, ex0, bx0, cx0⟩ := (A0.out.below hb).2 (by omega)
        obtain ⟨x1, y1, ex1, bx1, cx1⟩ := (A1.out.below hb).2 (by omega)
        obtain ⟨x2, y2, ex2, bx2, cx2⟩ := (B0.out.below hb).2 (by omega)
        obtain ⟨x3, y3, ex3, bx3, cx3⟩ := (B1.out.below hb).2 (by omega)
        subst ex0 ex1 ex2 ex3
        have E1 : (ps'.map (·.1)).getD k 0 = (ps.map (·.1)).getD k 0 := by
          rw [fst_getD _ _ (by rw [hm'.out]; omega), fst_getD _ _ (by rw [HL.out]; omega), HOLD.out k hkh]
        have E2 : (ps'.map (·.2)).getD k 0 = (ps.map (·.2)).getD k 0 := by
          rw [snd_getD _ _ (by rw [hm'.out]; omega), snd_getD _ _ (by rw [HL.out]; omega), HOLD.out k hkh]
        have z0 := cx0 k (by omega)
        have z1 := cx1 k (by omega)
        have z2 := cx2 k (by omega)
        have z3 := cx3 k (by omega)
        rw [E1] at z2
        rw [E2] at z3
        clear cx0 cx1 cx2 cx3 E1 E2
        generalize (ps.map (·.1)).getD k 0 = fv at z0 z2
        generalize (ps.map (·.2)).getD k 0 = lv at z1 z3
        have i1 : (k : Int) < (n : Int) := by omega
        have i2 : (k : Int) < (m : Int) := by omega
        go_wp2
        go_quiet (fail)
        go_wp2
        go_roundw
        case rel => exact ⟨k + 1, by omega, by go_num, below_drewN hb _⟩
        case measure => simp [intOf]; omega
      · go_wp2
        go_ret
        exact ⟨rfl, BEL.out.trans (hb.mono BEL.out.size)⟩
end Go.Proofs.Qxb6602619a
