/- spec.fewValues. PRINTED by wip/genhc.py. -/
import Derived.Lib.Hide
import Derived.Deep.DeepMust
import Derived.Test.YtjjhckbidcdkcaaDoorHa
import Derived.Test.YtjjhckbidcdkcaaDoorMap
namespace Go.Proofs.YtjjhckbidcdkcaaDoor
open Go.RowKit
set_option linter.unusedVariables false

set_option maxHeartbeats 4000000 in
set_option maxRecDepth 100000 in
theorem fewValues_calls (B : Nat) : ∀ (T : VT) (W : World) (gl : Nat) (L : Int) (A : Bool → Option Addr) (c : Bool → Nat), TV W B T A c → B ≤ W.heap.size → B ≤ gl → Blk W gl 3 [.int .i64 L] → 0 ≤ L → L ≤ 2000 →
    Calls Tryd.prog 62 #[vV T A c, .pointer (some ⟨gl, 0, none⟩)] W fun e W' => ∃ (b : Bool) (L' : Int), e = .returned (.bool b) ∧ Blk W' gl 3 [.int .i64 L'] ∧ (b = true → L' = L - T.cnt ∧ 0 ≤ L') ∧ W.grownBy W' (some gl)
  | .mk k u s o n f, W, gl, L, A, c, h, hB, hgl, hb, hL0, hL1 => by
    have ih0 := fun i => fewValues_calls B (f false i)
    have ih1 := fun i => fewValues_calls B (f true i)
    obtain ⟨hwf, hk⟩ := h.open_
    obtain ⟨hnc0, hcm0, hk0⟩ := hk false
    obtain ⟨hnc1, hcm1, hk1⟩ := hk true
    have hcnt := VT.cnt_eq (.mk k u s o n f)
    have hq := hb.cell 0
    simp only [List.getElem?_cons_zero] at hq
    have fz := hb.frozen 0
    have hgw := hb.lt
    clear hk h hwf
    unfold vV
    simp only [VT.k, VT.u, VT.s, VT.o, VT.n, VT.kid] at hnc0 hk0 hnc1 hk1 hcnt ⊢
    generalize (VT.mk k u s o n f).cnt = C at *
    generalize A false = A0 at *
    generalize A true = A1 at *
    generalize c false = c0 at *
    generalize c true = c1 at *
    generalize n false = n0 at *
    generalize n true = n1 at *
    generalize f false = f0 at *
    generalize f true = f1 at *
    have HIH0 := Lib.hid ih0
    have HIH1 := Lib.hid ih1
    have HB := Lib.hid hb
    have HK0 := Lib.hid hk0
    have HK1 := Lib.hid hk1
    have HCNT := Lib.hid hcnt
    clear ih0 ih1 hb hk0 hk1 hcnt
    by_cases hL : L = 0
    · subst hL
      go_enter Tryd.func62, Tryd.ntmps62
      go_wp2
      go_ret
      exact ⟨false, -1, rfl, (HB.out.set_ 0 _).alloc _, (by intro h; cases h), grownV_trans (grownV_set _ _ _ _) (World.grownBy_alloc _ _ _)⟩
    · have hL2 : 1 ≤ L := by omega
      clear hL
      obtain ⟨w1, hw1⟩ : ∃ w1, w1 = (W.setCell ⟨gl, 0, none⟩ (.int .i64 (L - 1))).alloc (.cells #[.int .i64 k, .int .u64 u, .string s, .slice A0 n0 c0, .int .i64 o, .slice A1 n1 c1] 25) := ⟨_, rfl⟩
      have hb1 : Blk w1 gl 3 [.int .i64 (L - 1)] := by rw [hw1]; exact (HB.out.set_ 0 _).alloc _
      have hp1 : Blk w1 W.heap.size 25 [.int .i64 k, .int .u64 u, .string s, .slice A0 n0 c0, .int .i64 o, .slice A1 n1 c1] := by
        rw [hw1]
        have := Blk.new (W.setCell ⟨gl, 0, none⟩ (.int .i64 (L - 1))) 25 [.int .i64 k, .int .u64 u, .string s, .slice A0 n0 c0, .int .i64 o, .slice A1 n1 c1]
        rwa [show (W.setCell ⟨gl, 0, none⟩ (.int .i64 (L - 1))).heap.size = W.heap.size by simp] at this
      have hg1 : W.grownBy w1 (some gl) := by rw [hw1]; exact grownV_trans (grownV_set _ _ _ _) (World.grownBy_alloc _ _ _)
      have HW1 := Lib.hid hw1
      have HB1 := Lib.hid hb1
      have HP1 := Lib.hid hp1
      have HG1 := Lib.hid hg1
      clear hw1 hb1 hp1 hg1
      go_enter Tryd.func62, Tryd.ntmps62
      go_wp2
      rw [← HW1.out]
      clear hq
      go_loopw [5] (fun i wr => ∃ m : Nat, m ≤ n0 ∧ i = .int .i64 m ∧ Hid (∃ L' : Int, L' = L - 1 - (0) - sumV (fun i => (f0 i).cnt) m ∧ 0 ≤ L' ∧ Blk wr gl 3 [.int .i64 L'] ∧ Blk wr W.heap.size 25 [.int .i64 k, .int .u64 u, .string s, .slice A0 n0 c0, .int .i64 o, .slice A1 n1 c1] ∧ W.grownBy wr (some gl))) (fun i _ => n0 - (intOf i).toNat)
      case atStart => exact ⟨0, Nat.zero_le _, rfl, L - 1, by simp [sumV], by omega, HB1.out, HP1.out, HG1.out⟩
      case round =>
        obtain ⟨m, hm, rfl, hrest⟩ := hrel
        obtain ⟨L', hL', hL'0, hb2, hp2, hg2⟩ := hrest.out
        have r4 := hp2.cell 3
        simp only [List.getElem?_cons_zero, List.getElem?_cons_succ] at r4
        have hmx : n0 ≤ 9223372036854775807 := by simp only [maxLen] at hcm0; omega
        have HL' := Lib.hid hL'
        have HB2 := Lib.hid hb2
        have HP2 := Lib.hid hp2
        have HG2 := Lib.hid hg2
        clear hrest hL' hb2 hp2 hg2
        by_cases hlt : m < n0
        · obtain ⟨g, p, hA, hgB, hk⟩ := HK0.out (show 0 < n0 by omega)
          obtain ⟨Ai, ci, hva, htk⟩ := hk m hlt
          have hbel : Below B W wr := belowV HG2.out (fun j hj => by injection hj with hj; omega) hB
          have hva2 := hva.keep (W' := wr) (fun q => hbel.cell (p := ⟨g, q, none⟩) hgB)
          obtain ⟨d0, d1, d2, d3, d4, d5⟩ := hva2
          have hcall := HIH0.out m wr gl L' Ai ci (TV.below hbel _ _ _ htk) (Nat.le_trans hB hbel.size) hgl HB2.out hL'0 (by have := HL'.out; omega)
          unfold vV at hcall
          subst hA
          have HC := Lib.hid hcall
          clear hk hva htk hbel hcall
          have hsum : sumV (fun i => (f0 i).cnt) (m + 1) = sumV (fun i => (f0 i).cnt) m + (f0 m).cnt := rfl
          generalize f0 m = T at *
          have HSUM := Lib.hid hsum
          clear hsum
          go_wp2_with (
            (go_at_call 62)
            go_must (
              (refine HC.out.mono ?_)
              rintro e w3 ⟨b, L3, rfl, hb3, hL3, hg3⟩
              have HB3 := Lib.hid hb3
              have HL3 := Lib.hid hL3
              have HG3 := Lib.hid hg3
              clear hb3 hL3 hg3))
          · go_ret
            exact ⟨false, L3, rfl, HB3.out, (by intro h; cases h), grownV_trans HG2.out HG3.out⟩
          · have hbt : (!b) = false := by assumption
            have hL3 := HL3.out (by simpa using hbt)
            go_wp2
            go_roundw
            case rel =>
              refine ⟨m + 1, by omega, by go_num, L3, ?_, hL3.2, HB3.out, HP2.out.grown HG3.out (by intro e; injection e with e; omega), grownV_trans HG2.out HG3.out⟩
              rw [HSUM.out, hL3.1, HL'.out]
              omega
            case measure => simp [intOf]; omega
        · obtain rfl : n0 = m := by omega
          go_wp2
          have HL0 := HL'
          clear r4 HW1 HB1 HP1 HG1 hmx hm
          go_loopw [6] (fun i wr => ∃ m : Nat, m ≤ n1 ∧ i = .int .i64 m ∧ Hid (∃ L' : Int, L' = L - 1 - (sumV (fun i => (f0 i).cnt) n0) - sumV (fun i => (f1 i).cnt) m ∧ 0 ≤ L' ∧ Blk wr gl 3 [.int .i64 L'] ∧ Blk wr W.heap.size 25 [.int .i64 k, .int .u64 u, .string s, .slice A0 n0 c0, .int .i64 o, .slice A1 n1 c1] ∧ W.grownBy wr (some gl))) (fun i _ => n1 - (intOf i).toNat)
          case atStart => exact ⟨0, Nat.zero_le _, rfl, L', by simpa [sumV] using HL0.out, hL'0, HB2.out, HP2.out, HG2.out⟩
          case round =>
            obtain ⟨m, hm, rfl, hrest⟩ := hrel
            clear HB2 HP2 HG2 HL' hL'0
            obtain ⟨L', hL', hL'0, hb2, hp2, hg2⟩ := hrest.out
            have r4 := hp2.cell 5
            simp only [List.getElem?_cons_zero, List.getElem?_cons_succ] at r4
            have hmx : n1 ≤ 9223372036854775807 := by simp only [maxLen] at hcm1; omega
            have HL' := Lib.hid hL'
            have HB2 := Lib.hid hb2
            have HP2 := Lib.hid hp2
            have HG2 := Lib.hid hg2
            clear hrest hL' hb2 hp2 hg2
            by_cases hlt : m < n1
            · obtain ⟨g, p, hA, hgB, hk⟩ := HK1.out (show 0 < n1 by omega)
              obtain ⟨Ai, ci, hva, htk⟩ := hk m hlt
              have hbel : Below B W wr := belowV HG2.out (fun j hj => by injection hj with hj; omega) hB
              have hva2 := hva.keep (W' := wr) (fun q => hbel.cell (p := ⟨g, q, none⟩) hgB)
              obtain ⟨d0, d1, d2, d3, d4, d5⟩ := hva2
              have hcall := HIH1.out m wr gl L' Ai ci (TV.below hbel _ _ _ htk) (Nat.le_trans hB hbel.size) hgl HB2.out hL'0 (by have := HL'.out; omega)
              unfold vV at hcall
              subst hA
              have HC := Lib.hid hcall
              clear hk hva htk hbel hcall
              have hsum : sumV (fun i => (f1 i).cnt) (m + 1) = sumV (fun i => (f1 i).cnt) m + (f1 m).cnt := rfl
              generalize f1 m = T at *
              have HSUM := Lib.hid hsum
              clear hsum
              go_wp2_with (
                (go_at_call 62)
                go_must (
                  (refine HC.out.mono ?_)
                  rintro e w3 ⟨b, L3, rfl, hb3, hL3, hg3⟩
                  have HB3 := Lib.hid hb3
                  have HL3 := Lib.hid hL3
                  have HG3 := Lib.hid hg3
                  clear hb3 hL3 hg3))
              · go_ret
                exact ⟨false, L3, rfl, HB3.out, (by intro h; cases h), grownV_trans HG2.out HG3.out⟩
              · have hbt : (!b) = false := by assumption
                have hL3 := HL3.out (by simpa using hbt)
                go_wp2
                go_roundw
                case rel =>
                  refine ⟨m + 1, by omega, by go_num, L3, ?_, hL3.2, HB3.out, HP2.out.grown HG3.out (by intro e; injection e with e; omega), grownV_trans HG2.out HG3.out⟩
                  rw [HSUM.out, hL3.1, HL'.out]
                  omega
                case measure => simp [intOf]; omega
            · obtain rfl : n1 = m := by omega
              go_wp2
              go_ret
              refine ⟨true, L', rfl, HB2.out, fun _ => ⟨?_, hL'0⟩, HG2.out⟩
              have h1 := HL'.out
              have h2 := HCNT.out
              omega
end Go.Proofs.YtjjhckbidcdkcaaDoor
