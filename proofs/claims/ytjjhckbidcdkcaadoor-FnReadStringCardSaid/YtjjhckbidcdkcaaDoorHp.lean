/- spec.valueFits at some classes of kinds. PRINTED by wip/genhp.py. -/
import Derived.Test.YtjjhckbidcdkcaaDoorHpd
namespace Go.Proofs.YtjjhckbidcdkcaaDoor
open Go.RowKit
set_option linter.unusedVariables false

set_option maxHeartbeats 4000000 in
set_option maxRecDepth 100000 in
theorem vf_zero (B : Nat) (k u o : Int) (s : ByteArray) (n : Bool → Nat) (f : Bool → Nat → VT) (ih : ∀ b i, VFc B (f b i)) (hk : k = 0) : VFc B (.mk k u s o n f) := by
  intro W A c lv h hB hU hl0 hl1
  have ih0 := ih false
  have ih1 := ih true 0
  obtain ⟨hwf, hkk⟩ := h.open_
  obtain ⟨hnc0, hcm0, hk0⟩ := hkk false
  obtain ⟨hnc1, hcm1, hk1⟩ := hkk true
  have hET : (Fld k u s (n false) (n true) ∧ CFt (.mk k u s o n f)) → (∀ i, i < n false → FitsV (f false i)) → (n true = 1 → FitsV (f true 0)) → FitsV (.mk k u s o n f) := fun h1 h2 h3 => ⟨h1, fun b i hi => by
    cases b
    · exact h2 i hi
    · have h4 := h1.1.2.2.2.2.2.1
      obtain rfl : i = 0 := by omega
      exact h3 (by omega)⟩
  have hcf := fun (W : World) h hB hU => contentFits_calls B W k u o s n f A c (by omega) (by omega) h hB hU
  unfold CFc vV at hcf
  have HTV := Lib.hid h
  generalize CFt (.mk k u s o n f) = CF at *
  generalize FitsV (.mk k u s o n f) = P at *
  clear hkk h ih
  unfold vV
  simp only [VT.n, VT.kid] at hnc0 hk0 hnc1 hk1
  simp only [VT.k, VT.u, VT.s, VT.o, VT.n] at hcf ⊢
  have htv : ∀ W' : World, Below B W W' → TV W' B (.mk k u s o n f) A c := fun W' hb => TV.below hb _ _ _ HTV.out
  have hcf2 := fun (W' : World) (hb : Below B W W') (hB' : B ≤ W'.heap.size) => hcf W' (htv W' hb) hB' (hU.below hb)
  clear hcf htv HTV
  generalize A false = A0 at *
  generalize A true = A1 at *
  generalize c false = c0 at *
  generalize c true = c1 at *
  generalize n false = n0 at *
  generalize n true = n1 at *
  generalize f false = f0 at *
  generalize f true = f1 at *
  have hu0 : 0 ≤ u := hwf.2.2.1
  have hu1 : u ≤ 18446744073709551615 := hwf.2.2.2.1
  have hss : s.size ≤ 9223372036854775807 := by have := hwf.2.2.2.2.2.2; simp only [maxLen, VT.s] at this; exact this
  have hm0 : n0 ≤ 9223372036854775807 := by simp only [maxLen] at hcm0; omega
  have hm1 : n1 ≤ 9223372036854775807 := by simp only [maxLen] at hcm1; omega
  obtain ⟨w1, hw1⟩ : ∃ w1, w1 = W.alloc (.cells #[.int .i64 k, .int .u64 u, .string s, .slice A0 n0 c0, .int .i64 o, .slice A1 n1 c1] 25) := ⟨_, rfl⟩
  have hp1 : Blk w1 W.heap.size 25 [.int .i64 k, .int .u64 u, .string s, .slice A0 n0 c0, .int .i64 o, .slice A1 n1 c1] := by rw [hw1]; exact Blk.new W 25 [.int .i64 k, .int .u64 u, .string s, .slice A0 n0 c0, .int .i64 o, .slice A1 n1 c1]
  have hb1 : Below W.heap.size W w1 := by rw [hw1]; exact (Below.refl _ W).alloc (Nat.le_refl _) _
  have hz1 : w1.heap.size = W.heap.size + 1 := by rw [hw1]; simp
  have v0 := hp1.cell 0
  have v1 := hp1.cell 1
  have v2 := hp1.cell 2
  have v3 := hp1.cell 3
  have v5 := hp1.cell 5
  simp only [List.getElem?_cons_zero, List.getElem?_cons_succ] at v0 v1 v2 v3 v5
  have HIH0 := Lib.hid ih0
  have HIH1 := Lib.hid ih1
  have HK0 := Lib.hid hk0
  have HK1 := Lib.hid hk1
  have HET := Lib.hid hET
  have HCF := Lib.hid hcf2
  have HU := Lib.hid hU
  have HW1 := Lib.hid hw1
  have HP1 := Lib.hid hp1
  have HB1 := Lib.hid hb1
  clear ih0 ih1 hk0 hk1 hET hcf2 hU hw1 hp1 hb1 hwf
  subst hk
  go_enter Tryd.func63, Tryd.ntmps63
  go_upto_region 1 with (fail)
  rw [← HW1.out]
  go_upto_region 6 with (fail)
  all_goals try (go_ret; exact ⟨false, rfl, (by intro h; cases h), HB1.out⟩)
  have HF : Hid (Fld 0 u s n0 n1) := ⟨by omega, by omega, .inr (by omega), .inr (toList_nil (by assumption)), .inr (by omega), by omega, by omega, by omega⟩
  obtain rfl : n0 = 0 := by omega
  obtain rfl : u = 0 := by omega
  have hf6 := HF.out.2.2.2.2.2.1
  by_cases hn1 : n1 = 0
  · have HD : Hid (n1 = 1 → FitsV (f1 0)) := fun h => absurd h (by omega)
    subst hn1
    have HPW := HP1
    have HBW := HB1
    go_upto_region 8 with (fail)
    have y3 := HPW.out.cell 3
    simp only [List.getElem?_cons_zero, List.getElem?_cons_succ] at y3
    have hwW : W.heap.size + 1 ≤ w1.heap.size := HPW.out.lt
    go_wp2
    go_loopw [149] (fun i wr => ∃ m : Nat, m ≤ 0 ∧ i = .int .i64 m ∧ Hid (Below w1.heap.size w1 wr ∧ ∀ i, i < m → FitsV (f0 i))) (fun i _ => 0 - (intOf i).toNat)
    case atStart => exact ⟨0, Nat.zero_le _, rfl, Below.refl _ _, fun i hi => absurd hi (by omega)⟩
    case round =>
      obtain ⟨m, hm, rfl, hrest⟩ := hrel
      obtain ⟨hg2, hall⟩ := hrest.out
      have hwz : w1.heap.size ≤ wr.heap.size := hg2.size
      have hbw : Below W.heap.size W wr := HBW.out.trans (hg2.mono (by omega))
      have hpr := HPW.out.below hg2 HPW.out.lt
      obtain ⟨x0, x1, x2, x3, x4, x5⟩ := (show _ ∧ _ ∧ _ ∧ _ ∧ _ ∧ _ from ⟨hpr.cell 0, hpr.cell 1, hpr.cell 2, hpr.cell 3, hpr.cell 4, hpr.cell 5⟩)
      simp only [List.getElem?_cons_zero, List.getElem?_cons_succ] at x0 x1 x2 x3 x4 x5
      have HALL := Lib.hid hall
      have HG2 := Lib.hid hg2
      have HBR := Lib.hid hbw
      clear hrest hg2 hall hbw hpr
      by_cases hlt : m < 0
      · exact absurd hlt (by omega)
      · obtain rfl : m = 0 := by omega
        have hcall := HCF.out wr (HBR.out.mono hB) (by omega)
        have HC := Lib.hid hcall
        clear hcall
        go_wp2_with (
          (go_at_call 86)
          go_must (
            (refine HC.out.mono ?_)
            rintro e w3 ⟨b3, rfl, hf3, hb3⟩
            have HB4 := Lib.hid (HBR.out.trans (hb3.mono (by omega)))
            have HF3 := Lib.hid hf3
            clear hb3 hf3))
        go_ret
        exact ⟨b3, rfl, fun h => HET.out ⟨HF.out, HF3.out h⟩ HALL.out HD.out, HB4.out⟩
  · obtain rfl : n1 = 1 := by omega
    clear hn1 hf6
    obtain ⟨gd, pd, hAd, hgd, hkd⟩ := HK1.out (by omega)
    obtain ⟨Ad, cd, hvad, htd⟩ := hkd 0 (by omega)
    rw [Nat.zero_mul, Nat.add_zero] at hvad
    obtain ⟨p0, p1, p2, p3, p4, p5⟩ := hvad.keep (W' := w1) (fun q => (HB1.out.mono hB).cell (p := ⟨gd, q, none⟩) hgd)
    have hXm : (f1 0).n true ≤ 9223372036854775807 := by have := (htd.open_).2 true; simp only [maxLen] at this; omega
    have hcall := HIH1.out w1 Ad cd (lv - 1) (TV.below (HB1.out.mono hB) _ _ _ htd) (by omega) (HU.out.below (HB1.out.mono hB)) (by omega) (by omega)
    unfold vV at hcall
    subst hAd
    have HC1 := Lib.hid hcall
    have HVD := Lib.hid hvad
    clear hcall hkd htd hvad HK1
    generalize f1 0 = X at *
    go_upto_region 8 with (
      (go_at_call 63)
      go_must (
        (refine HC1.out.mono ?_)
        rintro e w6 ⟨b6, rfl, hf6, hb6⟩
        obtain ⟨z0, z1, z2, z3, z4, z5⟩ := HVD.out.keep (W' := w6) (fun q => ((HB1.out.trans (hb6.mono (by omega))).mono hB).cell (p := ⟨gd, q, none⟩) hgd)
        have hp6 := HP1.out.below hb6 HP1.out.lt
        have z35 := hp6.cell 5
        simp only [List.getElem?_cons_zero, List.getElem?_cons_succ] at z35
        have HBW := Lib.hid (HB1.out.trans (hb6.mono (by omega)))
        have HPW := Lib.hid hp6
        have HD0 := Lib.hid hf6
        clear hb6 hf6 hp6
        cases b6))
    all_goals try (go_ret; exact ⟨false, rfl, (by intro h; cases h), HBW.out⟩)
    all_goals
      have HD : Hid (1 = 1 → FitsV X) := fun _ => HD0.out (by trivial)
      have y3 := HPW.out.cell 3
      simp only [List.getElem?_cons_zero, List.getElem?_cons_succ] at y3
      have hwW : W.heap.size + 1 ≤ w6.heap.size := HPW.out.lt
      go_wp2
      go_loopw [149] (fun i wr => ∃ m : Nat, m ≤ 0 ∧ i = .int .i64 m ∧ Hid (Below w6.heap.size w6 wr ∧ ∀ i, i < m → FitsV (f0 i))) (fun i _ => 0 - (intOf i).toNat)
      case atStart => exact ⟨0, Nat.zero_le _, rfl, Below.refl _ _, fun i hi => absurd hi (by omega)⟩
      case round =>
        obtain ⟨m, hm, rfl, hrest⟩ := hrel
        obtain ⟨hg2, hall⟩ := hrest.out
        have hwz : w6.heap.size ≤ wr.heap.size := hg2.size
        have hbw : Below W.heap.size W wr := HBW.out.trans (hg2.mono (by omega))
        have hpr := HPW.out.below hg2 HPW.out.lt
        obtain ⟨x0, x1, x2, x3, x4, x5⟩ := (show _ ∧ _ ∧ _ ∧ _ ∧ _ ∧ _ from ⟨hpr.cell 0, hpr.cell 1, hpr.cell 2, hpr.cell 3, hpr.cell 4, hpr.cell 5⟩)
        simp only [List.getElem?_cons_zero, List.getElem?_cons_succ] at x0 x1 x2 x3 x4 x5
        have HALL := Lib.hid hall
        have HG2 := Lib.hid hg2
        have HBR := Lib.hid hbw
        clear hrest hg2 hall hbw hpr
        by_cases hlt : m < 0
        · exact absurd hlt (by omega)
        · obtain rfl : m = 0 := by omega
          have hcall := HCF.out wr (HBR.out.mono hB) (by omega)
          have HC := Lib.hid hcall
          clear hcall
          go_wp2_with (
            (go_at_call 86)
            go_must (
              (refine HC.out.mono ?_)
              rintro e w3 ⟨b3, rfl, hf3, hb3⟩
              have HB4 := Lib.hid (HBR.out.trans (hb3.mono (by omega)))
              have HF3 := Lib.hid hf3
              clear hb3 hf3))
          go_ret
          exact ⟨b3, rfl, fun h => HET.out ⟨HF.out, HF3.out h⟩ HALL.out HD.out, HB4.out⟩
set_option maxHeartbeats 4000000 in
set_option maxRecDepth 100000 in
theorem vf_num (B : Nat) (k u o : Int) (s : ByteArray) (n : Bool → Nat) (f : Bool → Nat → VT) (ih : ∀ b i, VFc B (f b i)) (hk : (1 ≤ k ∧ k ≤ 16 ∧ k ≠ 14)) : VFc B (.mk k u s o n f) := by
  intro W A c lv h hB hU hl0 hl1
  have ih0 := ih false
  have ih1 := ih true 0
  obtain ⟨hwf, hkk⟩ := h.open_
  obtain ⟨hnc0, hcm0, hk0⟩ := hkk false
  obtain ⟨hnc1, hcm1, hk1⟩ := hkk true
  have hET : (Fld k u s (n false) (n true) ∧ CFt (.mk k u s o n f)) → (∀ i, i < n false → FitsV (f false i)) → (n true = 1 → FitsV (f true 0)) → FitsV (.mk k u s o n f) := fun h1 h2 h3 => ⟨h1, fun b i hi => by
    cases b
    · exact h2 i hi
    · have h4 := h1.1.2.2.2.2.2.1
      obtain rfl : i = 0 := by omega
      exact h3 (by omega)⟩
  have hcf := fun (W : World) h hB hU => contentFits_calls B W k u o s n f A c (by omega) (by omega) h hB hU
  unfold CFc vV at hcf
  have HTV := Lib.hid h
  generalize CFt (.mk k u s o n f) = CF at *
  generalize FitsV (.mk k u s o n f) = P at *
  clear hkk h ih
  unfold vV
  simp only [VT.n, VT.kid] at hnc0 hk0 hnc1 hk1
  simp only [VT.k, VT.u, VT.s, VT.o, VT.n] at hcf ⊢
  have htv : ∀ W' : World, Below B W W' → TV W' B (.mk k u s o n f) A c := fun W' hb => TV.below hb _ _ _ HTV.out
  have hcf2 := fun (W' : World) (hb : Below B W W') (hB' : B ≤ W'.heap.size) => hcf W' (htv W' hb) hB' (hU.below hb)
  clear hcf htv HTV
  generalize A false = A0 at *
  generalize A true = A1 at *
  generalize c false = c0 at *
  generalize c true = c1 at *
  generalize n false = n0 at *
  generalize n true = n1 at *
  generalize f false = f0 at *
  generalize f true = f1 at *
  have hu0 : 0 ≤ u := hwf.2.2.1
  have hu1 : u ≤ 18446744073709551615 := hwf.2.2.2.1
  have hss : s.size ≤ 9223372036854775807 := by have := hwf.2.2.2.2.2.2; simp only [maxLen, VT.s] at this; exact this
  have hm0 : n0 ≤ 9223372036854775807 := by simp only [maxLen] at hcm0; omega
  have hm1 : n1 ≤ 9223372036854775807 := by simp only [maxLen] at hcm1; omega
  obtain ⟨w1, hw1⟩ : ∃ w1, w1 = W.alloc (.cells #[.int .i64 k, .int .u64 u, .string s, .slice A0 n0 c0, .int .i64 o, .slice A1 n1 c1] 25) := ⟨_, rfl⟩
  have hp1 : Blk w1 W.heap.size 25 [.int .i64 k, .int .u64 u, .string s, .slice A0 n0 c0, .int .i64 o, .slice A1 n1 c1] := by rw [hw1]; exact Blk.new W 25 [.int .i64 k, .int .u64 u, .string s, .slice A0 n0 c0, .int .i64 o, .slice A1 n1 c1]
  have hb1 : Below W.heap.size W w1 := by rw [hw1]; exact (Below.refl _ W).alloc (Nat.le_refl _) _
  have hz1 : w1.heap.size = W.heap.size + 1 := by rw [hw1]; simp
  have v0 := hp1.cell 0
  have v1 := hp1.cell 1
  have v2 := hp1.cell 2
  have v3 := hp1.cell 3
  have v5 := hp1.cell 5
  simp only [List.getElem?_cons_zero, List.getElem?_cons_succ] at v0 v1 v2 v3 v5
  have HIH0 := Lib.hid ih0
  have HIH1 := Lib.hid ih1
  have HK0 := Lib.hid hk0
  have HK1 := Lib.hid hk1
  have HET := Lib.hid hET
  have HCF := Lib.hid hcf2
  have HU := Lib.hid hU
  have HW1 := Lib.hid hw1
  have HP1 := Lib.hid hp1
  have HB1 := Lib.hid hb1
  clear ih0 ih1 hk0 hk1 hET hcf2 hU hw1 hp1 hb1 hwf
  have t0 : (k == 21) = false := beq_eq_false_iff_ne.2 (by omega)
  have t1 : (k == 22) = false := beq_eq_false_iff_ne.2 (by omega)
  have t2 : (k == 23) = false := beq_eq_false_iff_ne.2 (by omega)
  have t3 : decide (17 ≤ k) = false := decide_eq_false (by omega)
  have t4 : decide (k ≤ 20) = true := decide_eq_true (by omega)
  have t5 : (k == 14) = false := beq_eq_false_iff_ne.2 (by omega)
  have t6 : decide (1 ≤ k) = true := decide_eq_true (by omega)
  have t7 : decide (k ≤ 16) = true := decide_eq_true (by omega)
  have t8 : (k != 14) = true := bne_iff_ne.2 (by omega)
  have t9 : decide (k < 0) = false := decide_eq_false (by omega)
  have t10 : decide (24 ≤ k) = false := decide_eq_false (by omega)
  have HKH := Lib.hid hk
  clear hk
  go_enter Tryd.func63, Tryd.ntmps63
  go_upto_region 1 with (fail)
  rw [← HW1.out]
  go_upto_region 6 with (fail)
  all_goals try (go_ret; exact ⟨false, rfl, (by intro h; cases h), HB1.out⟩)
  have hkk := HKH.out
  have HF : Hid (Fld k u s n0 n1) := ⟨by omega, by omega, .inr (by omega), .inr (toList_nil (by assumption)), .inl (by omega), by omega, by omega, by omega⟩
  obtain rfl : n0 = 0 := by omega
  have hf6 := HF.out.2.2.2.2.2.1
  by_cases hn1 : n1 = 0
  · have HD : Hid (n1 = 1 → FitsV (f1 0)) := fun h => absurd h (by omega)
    subst hn1
    have HPW := HP1
    have HBW := HB1
    go_upto_region 8 with (fail)
    have y3 := HPW.out.cell 3
    simp only [List.getElem?_cons_zero, List.getElem?_cons_succ] at y3
    have hwW : W.heap.size + 1 ≤ w1.heap.size := HPW.out.lt
    go_wp2
    go_loopw [149] (fun i wr => ∃ m : Nat, m ≤ 0 ∧ i = .int .i64 m ∧ Hid (Below w1.heap.size w1 wr ∧ ∀ i, i < m → FitsV (f0 i))) (fun i _ => 0 - (intOf i).toNat)
    case atStart => exact ⟨0, Nat.zero_le _, rfl, Below.refl _ _, fun i hi => absurd hi (by omega)⟩
    case round =>
      obtain ⟨m, hm, rfl, hrest⟩ := hrel
      obtain ⟨hg2, hall⟩ := hrest.out
      have hwz : w1.heap.size ≤ wr.heap.size := hg2.size
      have hbw : Below W.heap.size W wr := HBW.out.trans (hg2.mono (by omega))
      have hpr := HPW.out.below hg2 HPW.out.lt
      obtain ⟨x0, x1, x2, x3, x4, x5⟩ := (show _ ∧ _ ∧ _ ∧ _ ∧ _ ∧ _ from ⟨hpr.cell 0, hpr.cell 1, hpr.cell 2, hpr.cell 3, hpr.cell 4, hpr.cell 5⟩)
      simp only [List.getElem?_cons_zero, List.getElem?_cons_succ] at x0 x1 x2 x3 x4 x5
      have HALL := Lib.hid hall
      have HG2 := Lib.hid hg2
      have HBR := Lib.hid hbw
      clear hrest hg2 hall hbw hpr
      by_cases hlt : m < 0
      · exact absurd hlt (by omega)
      · obtain rfl : m = 0 := by omega
        have hcall := HCF.out wr (HBR.out.mono hB) (by omega)
        have HC := Lib.hid hcall
        clear hcall
        go_wp2_with (
          (go_at_call 86)
          go_must (
            (refine HC.out.mono ?_)
            rintro e w3 ⟨b3, rfl, hf3, hb3⟩
            have HB4 := Lib.hid (HBR.out.trans (hb3.mono (by omega)))
            have HF3 := Lib.hid hf3
            clear hb3 hf3))
        go_ret
        exact ⟨b3, rfl, fun h => HET.out ⟨HF.out, HF3.out h⟩ HALL.out HD.out, HB4.out⟩
  · obtain rfl : n1 = 1 := by omega
    clear hn1 hf6
    obtain ⟨gd, pd, hAd, hgd, hkd⟩ := HK1.out (by omega)
    obtain ⟨Ad, cd, hvad, htd⟩ := hkd 0 (by omega)
    rw [Nat.zero_mul, Nat.add_zero] at hvad
    obtain ⟨p0, p1, p2, p3, p4, p5⟩ := hvad.keep (W' := w1) (fun q => (HB1.out.mono hB).cell (p := ⟨gd, q, none⟩) hgd)
    have hXm : (f1 0).n true ≤ 9223372036854775807 := by have := (htd.open_).2 true; simp only [maxLen] at this; omega
    have hcall := HIH1.out w1 Ad cd (lv - 1) (TV.below (HB1.out.mono hB) _ _ _ htd) (by omega) (HU.out.below (HB1.out.mono hB)) (by omega) (by omega)
    unfold vV at hcall
    subst hAd
    have HC1 := Lib.hid hcall
    have HVD := Lib.hid hvad
    clear hcall hkd htd hvad HK1
    generalize f1 0 = X at *
    go_upto_region 8 with (
      (go_at_call 63)
      go_must (
        (refine HC1.out.mono ?_)
        rintro e w6 ⟨b6, rfl, hf6, hb6⟩
        obtain ⟨z0, z1, z2, z3, z4, z5⟩ := HVD.out.keep (W' := w6) (fun q => ((HB1.out.trans (hb6.mono (by omega))).mono hB).cell (p := ⟨gd, q, none⟩) hgd)
        have hp6 := HP1.out.below hb6 HP1.out.lt
        have z35 := hp6.cell 5
        simp only [List.getElem?_cons_zero, List.getElem?_cons_succ] at z35
        have HBW := Lib.hid (HB1.out.trans (hb6.mono (by omega)))
        have HPW := Lib.hid hp6
        have HD0 := Lib.hid hf6
        clear hb6 hf6 hp6
        cases b6))
    all_goals try (go_ret; exact ⟨false, rfl, (by intro h; cases h), HBW.out⟩)
    all_goals
      have HD : Hid (1 = 1 → FitsV X) := fun _ => HD0.out (by trivial)
      have y3 := HPW.out.cell 3
      simp only [List.getElem?_cons_zero, List.getElem?_cons_succ] at y3
      have hwW : W.heap.size + 1 ≤ w6.heap.size := HPW.out.lt
      go_wp2
      go_loopw [149] (fun i wr => ∃ m : Nat, m ≤ 0 ∧ i = .int .i64 m ∧ Hid (Below w6.heap.size w6 wr ∧ ∀ i, i < m → FitsV (f0 i))) (fun i _ => 0 - (intOf i).toNat)
      case atStart => exact ⟨0, Nat.zero_le _, rfl, Below.refl _ _, fun i hi => absurd hi (by omega)⟩
      case round =>
        obtain ⟨m, hm, rfl, hrest⟩ := hrel
        obtain ⟨hg2, hall⟩ := hrest.out
        have hwz : w6.heap.size ≤ wr.heap.size := hg2.size
        have hbw : Below W.heap.size W wr := HBW.out.trans (hg2.mono (by omega))
        have hpr := HPW.out.below hg2 HPW.out.lt
        obtain ⟨x0, x1, x2, x3, x4, x5⟩ := (show _ ∧ _ ∧ _ ∧ _ ∧ _ ∧ _ from ⟨hpr.cell 0, hpr.cell 1, hpr.cell 2, hpr.cell 3, hpr.cell 4, hpr.cell 5⟩)
        simp only [List.getElem?_cons_zero, List.getElem?_cons_succ] at x0 x1 x2 x3 x4 x5
        have HALL := Lib.hid hall
        have HG2 := Lib.hid hg2
        have HBR := Lib.hid hbw
        clear hrest hg2 hall hbw hpr
        by_cases hlt : m < 0
        · exact absurd hlt (by omega)
        · obtain rfl : m = 0 := by omega
          have hcall := HCF.out wr (HBR.out.mono hB) (by omega)
          have HC := Lib.hid hcall
          clear hcall
          go_wp2_with (
            (go_at_call 86)
            go_must (
              (refine HC.out.mono ?_)
              rintro e w3 ⟨b3, rfl, hf3, hb3⟩
              have HB4 := Lib.hid (HBR.out.trans (hb3.mono (by omega)))
              have HF3 := Lib.hid hf3
              clear hb3 hf3))
          go_ret
          exact ⟨b3, rfl, fun h => HET.out ⟨HF.out, HF3.out h⟩ HALL.out HD.out, HB4.out⟩
set_option maxHeartbeats 4000000 in
set_option maxRecDepth 100000 in
theorem vf_dec (B : Nat) (k u o : Int) (s : ByteArray) (n : Bool → Nat) (f : Bool → Nat → VT) (ih : ∀ b i, VFc B (f b i)) (hk : k = 14) : VFc B (.mk k u s o n f) := by
  intro W A c lv h hB hU hl0 hl1
  have ih0 := ih false
  have ih1 := ih true 0
  obtain ⟨hwf, hkk⟩ := h.open_
  obtain ⟨hnc0, hcm0, hk0⟩ := hkk false
  obtain ⟨hnc1, hcm1, hk1⟩ := hkk true
  have hET : (Fld k u s (n false) (n true) ∧ CFt (.mk k u s o n f)) → (∀ i, i < n false → FitsV (f false i)) → (n true = 1 → FitsV (f true 0)) → FitsV (.mk k u s o n f) := fun h1 h2 h3 => ⟨h1, fun b i hi => by
    cases b
    · exact h2 i hi
    · have h4 := h1.1.2.2.2.2.2.1
      obtain rfl : i = 0 := by omega
      exact h3 (by omega)⟩
  have hcf := fun (W : World) h hB hU => contentFits_calls B W k u o s n f A c (by omega) (by omega) h hB hU
  unfold CFc vV at hcf
  have HTV := Lib.hid h
  generalize CFt (.mk k u s o n f) = CF at *
  generalize FitsV (.mk k u s o n f) = P at *
  clear hkk h ih
  unfold vV
  simp only [VT.n, VT.kid] at hnc0 hk0 hnc1 hk1
  simp only [VT.k, VT.u, VT.s, VT.o, VT.n] at hcf ⊢
  have htv : ∀ W' : World, Below B W W' → TV W' B (.mk k u s o n f) A c := fun W' hb => TV.below hb _ _ _ HTV.out
  have hcf2 := fun (W' : World) (hb : Below B W W') (hB' : B ≤ W'.heap.size) => hcf W' (htv W' hb) hB' (hU.below hb)
  clear hcf htv HTV
  generalize A false = A0 at *
  generalize A true = A1 at *
  generalize c false = c0 at *
  generalize c true = c1 at *
  generalize n false = n0 at *
  generalize n true = n1 at *
  generalize f false = f0 at *
  generalize f true = f1 at *
  have hu0 : 0 ≤ u := hwf.2.2.1
  have hu1 : u ≤ 18446744073709551615 := hwf.2.2.2.1
  have hss : s.size ≤ 9223372036854775807 := by have := hwf.2.2.2.2.2.2; simp only [maxLen, VT.s] at this; exact this
  have hm0 : n0 ≤ 9223372036854775807 := by simp only [maxLen] at hcm0; omega
  have hm1 : n1 ≤ 9223372036854775807 := by simp only [maxLen] at hcm1; omega
  obtain ⟨w1, hw1⟩ : ∃ w1, w1 = W.alloc (.cells #[.int .i64 k, .int .u64 u, .string s, .slice A0 n0 c0, .int .i64 o, .slice A1 n1 c1] 25) := ⟨_, rfl⟩
  have hp1 : Blk w1 W.heap.size 25 [.int .i64 k, .int .u64 u, .string s, .slice A0 n0 c0, .int .i64 o, .slice A1 n1 c1] := by rw [hw1]; exact Blk.new W 25 [.int .i64 k, .int .u64 u, .string s, .slice A0 n0 c0, .int .i64 o, .slice A1 n1 c1]
  have hb1 : Below W.heap.size W w1 := by rw [hw1]; exact (Below.refl _ W).alloc (Nat.le_refl _) _
  have hz1 : w1.heap.size = W.heap.size + 1 := by rw [hw1]; simp
  have v0 := hp1.cell 0
  have v1 := hp1.cell 1
  have v2 := hp1.cell 2
  have v3 := hp1.cell 3
  have v5 := hp1.cell 5
  simp only [List.getElem?_cons_zero, List.getElem?_cons_succ] at v0 v1 v2 v3 v5
  have HIH0 := Lib.hid ih0
  have HIH1 := Lib.hid ih1
  have HK0 := Lib.hid hk0
  have HK1 := Lib.hid hk1
  have HET := Lib.hid hET
  have HCF := Lib.hid hcf2
  have HU := Lib.hid hU
  have HW1 := Lib.hid hw1
  have HP1 := Lib.hid hp1
  have HB1 := Lib.hid hb1
  clear ih0 ih1 hk0 hk1 hET hcf2 hU hw1 hp1 hb1 hwf
  subst hk
  go_enter Tryd.func63, Tryd.ntmps63
  go_upto_region 1 with (fail)
  rw [← HW1.out]
  go_upto_region 6 with (fail)
  all_goals try (go_ret; exact ⟨false, rfl, (by intro h; cases h), HB1.out⟩)
  have HF : Hid (Fld 14 u s n0 n1) := ⟨by omega, by omega, .inr (by omega), .inl (.inr (by omega)), .inr (by omega), by omega, by omega, by omega⟩
  obtain rfl : n0 = 0 := by omega
  obtain rfl : u = 0 := by omega
  have hf6 := HF.out.2.2.2.2.2.1
  by_cases hn1 : n1 = 0
  · have HD : Hid (n1 = 1 → FitsV (f1 0)) := fun h => absurd h (by omega)
    subst hn1
    have HPW := HP1
    have HBW := HB1
    go_upto_region 8 with (fail)
    have y3 := HPW.out.cell 3
    simp only [List.getElem?_cons_zero, List.getElem?_cons_succ] at y3
    have hwW : W.heap.size + 1 ≤ w1.heap.size := HPW.out.lt
    go_wp2
    go_loopw [149] (fun i wr => ∃ m : Nat, m ≤ 0 ∧ i = .int .i64 m ∧ Hid (Below w1.heap.size w1 wr ∧ ∀ i, i < m → FitsV (f0 i))) (fun i _ => 0 - (intOf i).toNat)
    case atStart => exact ⟨0, Nat.zero_le _, rfl, Below.refl _ _, fun i hi => absurd hi (by omega)⟩
    case round =>
      obtain ⟨m, hm, rfl, hrest⟩ := hrel
      obtain ⟨hg2, hall⟩ := hrest.out
      have hwz : w1.heap.size ≤ wr.heap.size := hg2.size
      have hbw : Below W.heap.size W wr := HBW.out.trans (hg2.mono (by omega))
      have hpr := HPW.out.below hg2 HPW.out.lt
      obtain ⟨x0, x1, x2, x3, x4, x5⟩ := (show _ ∧ _ ∧ _ ∧ _ ∧ _ ∧ _ from ⟨hpr.cell 0, hpr.cell 1, hpr.cell 2, hpr.cell 3, hpr.cell 4, hpr.cell 5⟩)
      simp only [List.getElem?_cons_zero, List.getElem?_cons_succ] at x0 x1 x2 x3 x4 x5
      have HALL := Lib.hid hall
      have HG2 := Lib.hid hg2
      have HBR := Lib.hid hbw
      clear hrest hg2 hall hbw hpr
      by_cases hlt : m < 0
      · exact absurd hlt (by omega)
      · obtain rfl : m = 0 := by omega
        have hcall := HCF.out wr (HBR.out.mono hB) (by omega)
        have HC := Lib.hid hcall
        clear hcall
        go_wp2_with (
          (go_at_call 86)
          go_must (
            (refine HC.out.mono ?_)
            rintro e w3 ⟨b3, rfl, hf3, hb3⟩
            have HB4 := Lib.hid (HBR.out.trans (hb3.mono (by omega)))
            have HF3 := Lib.hid hf3
            clear hb3 hf3))
        go_ret
        exact ⟨b3, rfl, fun h => HET.out ⟨HF.out, HF3.out h⟩ HALL.out HD.out, HB4.out⟩
  · obtain rfl : n1 = 1 := by omega
    clear hn1 hf6
    obtain ⟨gd, pd, hAd, hgd, hkd⟩ := HK1.out (by omega)
    obtain ⟨Ad, cd, hvad, htd⟩ := hkd 0 (by omega)
    rw [Nat.zero_mul, Nat.add_zero] at hvad
    obtain ⟨p0, p1, p2, p3, p4, p5⟩ := hvad.keep (W' := w1) (fun q => (HB1.out.mono hB).cell (p := ⟨gd, q, none⟩) hgd)
    have hXm : (f1 0).n true ≤ 9223372036854775807 := by have := (htd.open_).2 true; simp only [maxLen] at this; omega
    have hcall := HIH1.out w1 Ad cd (lv - 1) (TV.below (HB1.out.mono hB) _ _ _ htd) (by omega) (HU.out.below (HB1.out.mono hB)) (by omega) (by omega)
    unfold vV at hcall
    subst hAd
    have HC1 := Lib.hid hcall
    have HVD := Lib.hid hvad
    clear hcall hkd htd hvad HK1
    generalize f1 0 = X at *
    go_upto_region 8 with (
      (go_at_call 63)
      go_must (
        (refine HC1.out.mono ?_)
        rintro e w6 ⟨b6, rfl, hf6, hb6⟩
        obtain ⟨z0, z1, z2, z3, z4, z5⟩ := HVD.out.keep (W' := w6) (fun q => ((HB1.out.trans (hb6.mono (by omega))).mono hB).cell (p := ⟨gd, q, none⟩) hgd)
        have hp6 := HP1.out.below hb6 HP1.out.lt
        have z35 := hp6.cell 5
        simp only [List.getElem?_cons_zero, List.getElem?_cons_succ] at z35
        have HBW := Lib.hid (HB1.out.trans (hb6.mono (by omega)))
        have HPW := Lib.hid hp6
        have HD0 := Lib.hid hf6
        clear hb6 hf6 hp6
        cases b6))
    all_goals try (go_ret; exact ⟨false, rfl, (by intro h; cases h), HBW.out⟩)
    all_goals
      have HD : Hid (1 = 1 → FitsV X) := fun _ => HD0.out (by trivial)
      have y3 := HPW.out.cell 3
      simp only [List.getElem?_cons_zero, List.getElem?_cons_succ] at y3
      have hwW : W.heap.size + 1 ≤ w6.heap.size := HPW.out.lt
      go_wp2
      go_loopw [149] (fun i wr => ∃ m : Nat, m ≤ 0 ∧ i = .int .i64 m ∧ Hid (Below w6.heap.size w6 wr ∧ ∀ i, i < m → FitsV (f0 i))) (fun i _ => 0 - (intOf i).toNat)
      case atStart => exact ⟨0, Nat.zero_le _, rfl, Below.refl _ _, fun i hi => absurd hi (by omega)⟩
      case round =>
        obtain ⟨m, hm, rfl, hrest⟩ := hrel
        obtain ⟨hg2, hall⟩ := hrest.out
        have hwz : w6.heap.size ≤ wr.heap.size := hg2.size
        have hbw : Below W.heap.size W wr := HBW.out.trans (hg2.mono (by omega))
        have hpr := HPW.out.below hg2 HPW.out.lt
        obtain ⟨x0, x1, x2, x3, x4, x5⟩ := (show _ ∧ _ ∧ _ ∧ _ ∧ _ ∧ _ from ⟨hpr.cell 0, hpr.cell 1, hpr.cell 2, hpr.cell 3, hpr.cell 4, hpr.cell 5⟩)
        simp only [List.getElem?_cons_zero, List.getElem?_cons_succ] at x0 x1 x2 x3 x4 x5
        have HALL := Lib.hid hall
        have HG2 := Lib.hid hg2
        have HBR := Lib.hid hbw
        clear hrest hg2 hall hbw hpr
        by_cases hlt : m < 0
        · exact absurd hlt (by omega)
        · obtain rfl : m = 0 := by omega
          have hcall := HCF.out wr (HBR.out.mono hB) (by omega)
          have HC := Lib.hid hcall
          clear hcall
          go_wp2_with (
            (go_at_call 86)
            go_must (
              (refine HC.out.mono ?_)
              rintro e w3 ⟨b3, rfl, hf3, hb3⟩
              have HB4 := Lib.hid (HBR.out.trans (hb3.mono (by omega)))
              have HF3 := Lib.hid hf3
              clear hb3 hf3))
          go_ret
          exact ⟨b3, rfl, fun h => HET.out ⟨HF.out, HF3.out h⟩ HALL.out HD.out, HB4.out⟩
set_option maxHeartbeats 4000000 in
set_option maxRecDepth 100000 in
theorem vf_txt (B : Nat) (k u o : Int) (s : ByteArray) (n : Bool → Nat) (f : Bool → Nat → VT) (ih : ∀ b i, VFc B (f b i)) (hk : (17 ≤ k ∧ k ≤ 20)) : VFc B (.mk k u s o n f) := by
  intro W A c lv h hB hU hl0 hl1
  have ih0 := ih false
  have ih1 := ih true 0
  obtain ⟨hwf, hkk⟩ := h.open_
  obtain ⟨hnc0, hcm0, hk0⟩ := hkk false
  obtain ⟨hnc1, hcm1, hk1⟩ := hkk true
  have hET : (Fld k u s (n false) (n true) ∧ CFt (.mk k u s o n f)) → (∀ i, i < n false → FitsV (f false i)) → (n true = 1 → FitsV (f true 0)) → FitsV (.mk k u s o n f) := fun h1 h2 h3 => ⟨h1, fun b i hi => by
    cases b
    · exact h2 i hi
    · have h4 := h1.1.2.2.2.2.2.1
      obtain rfl : i = 0 := by omega
      exact h3 (by omega)⟩
  have hcf := fun (W : World) h hB hU => contentFits_calls B W k u o s n f A c (by omega) (by omega) h hB hU
  unfold CFc vV at hcf
  have HTV := Lib.hid h
  generalize CFt (.mk k u s o n f) = CF at *
  generalize FitsV (.mk k u s o n f) = P at *
  clear hkk h ih
  unfold vV
  simp only [VT.n, VT.kid] at hnc0 hk0 hnc1 hk1
  simp only [VT.k, VT.u, VT.s, VT.o, VT.n] at hcf ⊢
  have htv : ∀ W' : World, Below B W W' → TV W' B (.mk k u s o n f) A c := fun W' hb => TV.below hb _ _ _ HTV.out
  have hcf2 := fun (W' : World) (hb : Below B W W') (hB' : B ≤ W'.heap.size) => hcf W' (htv W' hb) hB' (hU.below hb)
  clear hcf htv HTV
  generalize A false = A0 at *
  generalize A true = A1 at *
  generalize c false = c0 at *
  generalize c true = c1 at *
  generalize n false = n0 at *
  generalize n true = n1 at *
  generalize f false = f0 at *
  generalize f true = f1 at *
  have hu0 : 0 ≤ u := hwf.2.2.1
  have hu1 : u ≤ 18446744073709551615 := hwf.2.2.2.1
  have hss : s.size ≤ 9223372036854775807 := by have := hwf.2.2.2.2.2.2; simp only [maxLen, VT.s] at this; exact this
  have hm0 : n0 ≤ 9223372036854775807 := by simp only [maxLen] at hcm0; omega
  have hm1 : n1 ≤ 9223372036854775807 := by simp only [maxLen] at hcm1; omega
  obtain ⟨w1, hw1⟩ : ∃ w1, w1 = W.alloc (.cells #[.int .i64 k, .int .u64 u, .string s, .slice A0 n0 c0, .int .i64 o, .slice A1 n1 c1] 25) := ⟨_, rfl⟩
  have hp1 : Blk w1 W.heap.size 25 [.int .i64 k, .int .u64 u, .string s, .slice A0 n0 c0, .int .i64 o, .slice A1 n1 c1] := by rw [hw1]; exact Blk.new W 25 [.int .i64 k, .int .u64 u, .string s, .slice A0 n0 c0, .int .i64 o, .slice A1 n1 c1]
  have hb1 : Below W.heap.size W w1 := by rw [hw1]; exact (Below.refl _ W).alloc (Nat.le_refl _) _
  have hz1 : w1.heap.size = W.heap.size + 1 := by rw [hw1]; simp
  have v0 := hp1.cell 0
  have v1 := hp1.cell 1
  have v2 := hp1.cell 2
  have v3 := hp1.cell 3
  have v5 := hp1.cell 5
  simp only [List.getElem?_cons_zero, List.getElem?_cons_succ] at v0 v1 v2 v3 v5
  have HIH0 := Lib.hid ih0
  have HIH1 := Lib.hid ih1
  have HK0 := Lib.hid hk0
  have HK1 := Lib.hid hk1
  have HET := Lib.hid hET
  have HCF := Lib.hid hcf2
  have HU := Lib.hid hU
  have HW1 := Lib.hid hw1
  have HP1 := Lib.hid hp1
  have HB1 := Lib.hid hb1
  clear ih0 ih1 hk0 hk1 hET hcf2 hU hw1 hp1 hb1 hwf
  have t0 : (k == 21) = false := beq_eq_false_iff_ne.2 (by omega)
  have t1 : (k == 22) = false := beq_eq_false_iff_ne.2 (by omega)
  have t2 : (k == 23) = false := beq_eq_false_iff_ne.2 (by omega)
  have t3 : decide (17 ≤ k) = true := decide_eq_true (by omega)
  have t4 : decide (k ≤ 20) = true := decide_eq_true (by omega)
  have t5 : (k == 14) = false := beq_eq_false_iff_ne.2 (by omega)
  have t6 : decide (1 ≤ k) = true := decide_eq_true (by omega)
  have t7 : decide (k ≤ 16) = false := decide_eq_false (by omega)
  have t8 : (k != 14) = true := bne_iff_ne.2 (by omega)
  have t9 : decide (k < 0) = false := decide_eq_false (by omega)
  have t10 : decide (24 ≤ k) = false := decide_eq_false (by omega)
  have HKH := Lib.hid hk
  clear hk
  go_enter Tryd.func63, Tryd.ntmps63
  go_upto_region 1 with (fail)
  rw [← HW1.out]
  go_upto_region 6 with (fail)
  all_goals try (go_ret; exact ⟨false, rfl, (by intro h; cases h), HB1.out⟩)
  have hkk := HKH.out
  have HF : Hid (Fld k u s n0 n1) := ⟨by omega, by omega, .inr (by omega), .inl (.inl (by omega)), .inr (by omega), by omega, by omega, by omega⟩
  obtain rfl : n0 = 0 := by omega
  obtain rfl : u = 0 := by omega
  have hf6 := HF.out.2.2.2.2.2.1
  by_cases hn1 : n1 = 0
  · have HD : Hid (n1 = 1 → FitsV (f1 0)) := fun h => absurd h (by omega)
    subst hn1
    have HPW := HP1
    have HBW := HB1
    go_upto_region 8 with (fail)
    have y3 := HPW.out.cell 3
    simp only [List.getElem?_cons_zero, List.getElem?_cons_succ] at y3
    have hwW : W.heap.size + 1 ≤ w1.heap.size := HPW.out.lt
    go_wp2
    go_loopw [149] (fun i wr => ∃ m : Nat, m ≤ 0 ∧ i = .int .i64 m ∧ Hid (Below w1.heap.size w1 wr ∧ ∀ i, i < m → FitsV (f0 i))) (fun i _ => 0 - (intOf i).toNat)
    case atStart => exact ⟨0, Nat.zero_le _, rfl, Below.refl _ _, fun i hi => absurd hi (by omega)⟩
    case round =>
      obtain ⟨m, hm, rfl, hrest⟩ := hrel
      obtain ⟨hg2, hall⟩ := hrest.out
      have hwz : w1.heap.size ≤ wr.heap.size := hg2.size
      have hbw : Below W.heap.size W wr := HBW.out.trans (hg2.mono (by omega))
      have hpr := HPW.out.below hg2 HPW.out.lt
      obtain ⟨x0, x1, x2, x3, x4, x5⟩ := (show _ ∧ _ ∧ _ ∧ _ ∧ _ ∧ _ from ⟨hpr.cell 0, hpr.cell 1, hpr.cell 2, hpr.cell 3, hpr.cell 4, hpr.cell 5⟩)
      simp only [List.getElem?_cons_zero, List.getElem?_cons_succ] at x0 x1 x2 x3 x4 x5
      have HALL := Lib.hid hall
      have HG2 := Lib.hid hg2
      have HBR := Lib.hid hbw
      clear hrest hg2 hall hbw hpr
      by_cases hlt : m < 0
      · exact absurd hlt (by omega)
      · obtain rfl : m = 0 := by omega
        have hcall := HCF.out wr (HBR.out.mono hB) (by omega)
        have HC := Lib.hid hcall
        clear hcall
        go_wp2_with (
          (go_at_call 86)
          go_must (
            (refine HC.out.mono ?_)
            rintro e w3 ⟨b3, rfl, hf3, hb3⟩
            have HB4 := Lib.hid (HBR.out.trans (hb3.mono (by omega)))
            have HF3 := Lib.hid hf3
            clear hb3 hf3))
        go_ret
        exact ⟨b3, rfl, fun h => HET.out ⟨HF.out, HF3.out h⟩ HALL.out HD.out, HB4.out⟩
  · obtain rfl : n1 = 1 := by omega
    clear hn1 hf6
    obtain ⟨gd, pd, hAd, hgd, hkd⟩ := HK1.out (by omega)
    obtain ⟨Ad, cd, hvad, htd⟩ := hkd 0 (by omega)
    rw [Nat.zero_mul, Nat.add_zero] at hvad
    obtain ⟨p0, p1, p2, p3, p4, p5⟩ := hvad.keep (W' := w1) (fun q => (HB1.out.mono hB).cell (p := ⟨gd, q, none⟩) hgd)
    have hXm : (f1 0).n true ≤ 9223372036854775807 := by have := (htd.open_).2 true; simp only [maxLen] at this; omega
    have hcall := HIH1.out w1 Ad cd (lv - 1) (TV.below (HB1.out.mono hB) _ _ _ htd) (by omega) (HU.out.below (HB1.out.mono hB)) (by omega) (by omega)
    unfold vV at hcall
    subst hAd
    have HC1 := Lib.hid hcall
    have HVD := Lib.hid hvad
    clear hcall hkd htd hvad HK1
    generalize f1 0 = X at *
    go_upto_region 8 with (
      (go_at_call 63)
      go_must (
        (refine HC1.out.mono ?_)
        rintro e w6 ⟨b6, rfl, hf6, hb6⟩
        obtain ⟨z0, z1, z2, z3, z4, z5⟩ := HVD.out.keep (W' := w6) (fun q => ((HB1.out.trans (hb6.mono (by omega))).mono hB).cell (p := ⟨gd, q, none⟩) hgd)
        have hp6 := HP1.out.below hb6 HP1.out.lt
        have z35 := hp6.cell 5
        simp only [List.getElem?_cons_zero, List.getElem?_cons_succ] at z35
        have HBW := Lib.hid (HB1.out.trans (hb6.mono (by omega)))
        have HPW := Lib.hid hp6
        have HD0 := Lib.hid hf6
        clear hb6 hf6 hp6
        cases b6))
    all_goals try (go_ret; exact ⟨false, rfl, (by intro h; cases h), HBW.out⟩)
    all_goals
      have HD : Hid (1 = 1 → FitsV X) := fun _ => HD0.out (by trivial)
      have y3 := HPW.out.cell 3
      simp only [List.getElem?_cons_zero, List.getElem?_cons_succ] at y3
      have hwW : W.heap.size + 1 ≤ w6.heap.size := HPW.out.lt
      go_wp2
      go_loopw [149] (fun i wr => ∃ m : Nat, m ≤ 0 ∧ i = .int .i64 m ∧ Hid (Below w6.heap.size w6 wr ∧ ∀ i, i < m → FitsV (f0 i))) (fun i _ => 0 - (intOf i).toNat)
      case atStart => exact ⟨0, Nat.zero_le _, rfl, Below.refl _ _, fun i hi => absurd hi (by omega)⟩
      case round =>
        obtain ⟨m, hm, rfl, hrest⟩ := hrel
        obtain ⟨hg2, hall⟩ := hrest.out
        have hwz : w6.heap.size ≤ wr.heap.size := hg2.size
        have hbw : Below W.heap.size W wr := HBW.out.trans (hg2.mono (by omega))
        have hpr := HPW.out.below hg2 HPW.out.lt
        obtain ⟨x0, x1, x2, x3, x4, x5⟩ := (show _ ∧ _ ∧ _ ∧ _ ∧ _ ∧ _ from ⟨hpr.cell 0, hpr.cell 1, hpr.cell 2, hpr.cell 3, hpr.cell 4, hpr.cell 5⟩)
        simp only [List.getElem?_cons_zero, List.getElem?_cons_succ] at x0 x1 x2 x3 x4 x5
        have HALL := Lib.hid hall
        have HG2 := Lib.hid hg2
        have HBR := Lib.hid hbw
        clear hrest hg2 hall hbw hpr
        by_cases hlt : m < 0
        · exact absurd hlt (by omega)
        · obtain rfl : m = 0 := by omega
          have hcall := HCF.out wr (HBR.out.mono hB) (by omega)
          have HC := Lib.hid hcall
          clear hcall
          go_wp2_with (
            (go_at_call 86)
            go_must (
              (refine HC.out.mono ?_)
              rintro e w3 ⟨b3, rfl, hf3, hb3⟩
              have HB4 := Lib.hid (HBR.out.trans (hb3.mono (by omega)))
              have HF3 := Lib.hid hf3
              clear hb3 hf3))
          go_ret
          exact ⟨b3, rfl, fun h => HET.out ⟨HF.out, HF3.out h⟩ HALL.out HD.out, HB4.out⟩
end Go.Proofs.YtjjhckbidcdkcaaDoor
