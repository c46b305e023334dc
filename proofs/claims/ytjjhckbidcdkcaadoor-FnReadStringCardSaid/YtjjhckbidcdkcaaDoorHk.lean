/- spec.EmptyTexts. PRINTED by wip/genhk.py. -/
import Derived.Lib.Hide
import Derived.Deep.DeepMust
import Derived.Test.YtjjhckbidcdkcaaDoorHa
import Derived.Test.YtjjhckbidcdkcaaDoorMap
namespace Go.Proofs.YtjjhckbidcdkcaaDoor
open Go.RowKit
set_option linter.unusedVariables false

theorem toList_nil {s : ByteArray} (h : s.toList = []) : s = ByteArray.empty := by
  rw [ByteArray.toList_eq] at h
  exact ByteArray.ext (by simpa using h)
/-- No text of an array of texts is empty. -/
def ETf (T : VT) : Prop := T.k = 23 → ∀ i, i < T.n false → 18 ≤ (T.kid false i).k → (T.kid false i).k ≤ 20 → (T.kid false i).s ≠ ByteArray.empty
set_option maxHeartbeats 4000000 in
set_option maxRecDepth 100000 in
theorem emptyTexts_calls (B : Nat) : ∀ (T : VT) (W : World) (A : Bool → Option Addr) (c : Bool → Nat), TV W B T A c → B ≤ W.heap.size →
    Calls Tryd.prog 35 #[vV T A c] W fun e W' => ∃ b : Bool, e = .returned (.bool b) ∧ (b = false → ETf T) ∧ Below W.heap.size W W'
  | .mk k u s o n f, W, A, c, h, hB => by
    have ih0 := fun i => emptyTexts_calls B (f false i)
    obtain ⟨hwf, hk⟩ := h.open_
    obtain ⟨hnc0, hcm0, hk0⟩ := hk false
    clear hk h hwf
    have hET : (k = 23 → ∀ i, i < n false → 18 ≤ (f false i).k → (f false i).k ≤ 20 → (f false i).s ≠ ByteArray.empty) → ETf (.mk k u s o n f) := id
    generalize ETf (.mk k u s o n f) = P at *
    unfold vV
    simp only [VT.n, VT.kid] at hnc0 hk0
    simp only [VT.k, VT.u, VT.s, VT.o, VT.n]
    generalize A false = A0 at *
    generalize A true = A1 at *
    generalize c false = c0 at *
    generalize c true = c1 at *
    generalize n false = n0 at *
    generalize n true = n1 at *
    generalize f false = f0 at *
    have HIH0 := Lib.hid ih0
    have HK0 := Lib.hid hk0
    have HET := Lib.hid hET
    clear ih0 hk0 hET
    obtain ⟨w1, hw1⟩ : ∃ w1, w1 = W.alloc (.cells #[.int .i64 k, .int .u64 u, .string s, .slice A0 n0 c0, .int .i64 o, .slice A1 n1 c1] 25) := ⟨_, rfl⟩
    have hp1 : Blk w1 W.heap.size 25 [.int .i64 k, .int .u64 u, .string s, .slice A0 n0 c0, .int .i64 o, .slice A1 n1 c1] := by
      rw [hw1]
      exact Blk.new W 25 [.int .i64 k, .int .u64 u, .string s, .slice A0 n0 c0, .int .i64 o, .slice A1 n1 c1]
    have hg1 : Below W.heap.size W w1 := by rw [hw1]; exact (Below.refl _ W).alloc (Nat.le_refl _) _
    have hz1 : W.heap.size < w1.heap.size := hp1.lt
    have HW1 := Lib.hid hw1
    have HP1 := Lib.hid hp1
    have HG1 := Lib.hid hg1
    have HZ1 := Lib.hid hz1
    clear hw1 hp1 hg1 hz1
    go_enter Tryd.func35, Tryd.ntmps35
    go_wp2
    rw [← HW1.out]
    go_loopw [8] (fun i wr => ∃ m : Nat, m ≤ n0 ∧ i = .int .i64 m ∧ Hid (Blk wr W.heap.size 25 [.int .i64 k, .int .u64 u, .string s, .slice A0 n0 c0, .int .i64 o, .slice A1 n1 c1] ∧ Below W.heap.size W wr ∧ (k = 23 → ∀ i, i < m → 18 ≤ (f0 i).k → (f0 i).k ≤ 20 → (f0 i).s ≠ ByteArray.empty))) (fun i _ => n0 - (intOf i).toNat)
    case atStart => exact ⟨0, Nat.zero_le _, rfl, HP1.out, HG1.out, fun _ i hi => absurd hi (by omega)⟩
    case round =>
      obtain ⟨m, hm, rfl, hrest⟩ := hrel
      obtain ⟨hp2, hg2, hf2⟩ := hrest.out
      have r0 := hp2.cell 0
      simp only [List.getElem?_cons_zero] at r0
      have hmx : n0 ≤ 9223372036854775807 := by simp only [maxLen] at hcm0; omega
      have HP2 := Lib.hid hp2
      have HG2 := Lib.hid hg2
      have HF2 := Lib.hid hf2
      clear hrest hp2 hg2 hf2
      by_cases hlt : m < n0
      · obtain ⟨g, p, hA, hgB, hk⟩ := HK0.out (show 0 < n0 by omega)
        obtain ⟨Ai, ci, hva, htk⟩ := hk m hlt
        have hbel : Below B W wr := HG2.out.mono hB
        have hva2 := hva.keep (W' := wr) (fun q => hbel.cell (p := ⟨g, q, none⟩) hgB)
        obtain ⟨d0, d1, d2, d3, d4, d5⟩ := hva2
        have hwl : W.heap.size < wr.heap.size := HP2.out.lt
        have hwz : W.heap.size ≤ wr.heap.size := by omega
        have hBw : B ≤ wr.heap.size := Nat.le_trans hB hwz
        obtain ⟨w2, hw2⟩ : ∃ w2, w2 = wr.alloc (.cells #[.int .i64 (f0 m).k, .int .u64 (f0 m).u, .string (f0 m).s, .slice (Ai false) ((f0 m).n false) (ci false), .int .i64 (f0 m).o, .slice (Ai true) ((f0 m).n true) (ci true)] 25) := ⟨_, rfl⟩
        have htk2 : TV w2 B (f0 m) Ai ci := by rw [hw2]; exact TV.below (hbel.alloc hBw _) _ _ _ htk
        have hz2 : w2.heap.size = wr.heap.size + 1 := by rw [hw2]; simp
        have hcall := HIH0.out m w2 Ai ci htk2 (by omega)
        have hq2 : Blk w2 wr.heap.size 25 [.int .i64 (f0 m).k, .int .u64 (f0 m).u, .string (f0 m).s, .slice (Ai false) ((f0 m).n false) (ci false), .int .i64 (f0 m).o, .slice (Ai true) ((f0 m).n true) (ci true)] := by rw [hw2]; exact Blk.new wr _ [.int .i64 (f0 m).k, .int .u64 (f0 m).u, .string (f0 m).s, .slice (Ai false) ((f0 m).n false) (ci false), .int .i64 (f0 m).o, .slice (Ai true) ((f0 m).n true) (ci true)]
        have hg3 : Below W.heap.size W w2 := by rw [hw2]; exact HG2.out.alloc hwz _
        have hp3 : Blk w2 W.heap.size 25 [.int .i64 k, .int .u64 u, .string s, .slice A0 n0 c0, .int .i64 o, .slice A1 n1 c1] := by rw [hw2]; exact HP2.out.alloc _
        unfold vV at hcall
        subst hA
        have hst : (k = 23 → ∀ i, i < m + 1 → 18 ≤ (f0 i).k → (f0 i).k ≤ 20 → (f0 i).s ≠ ByteArray.empty) ↔ (k = 23 → 18 ≤ (f0 m).k → (f0 m).k ≤ 20 → (f0 m).s ≠ ByteArray.empty) := by
          refine ⟨fun h hk => h hk m (by omega), fun h hk i hi => ?_⟩
          by_cases him : i = m
          · subst him; exact h hk
          · exact HF2.out hk i (by omega)
        have HST := Lib.hid hst
        have HC := Lib.hid hcall
        have HQ2 := Lib.hid hq2
        have HG3 := Lib.hid hg3
        have HP3 := Lib.hid hp3
        have HW2 := Lib.hid hw2
        have HZ2 := Lib.hid hz2
        clear hk hva htk hbel hcall hq2 hg3 hp3 hw2 hz2 htk2 hst
        generalize f0 m = T at *
        have e0 := HQ2.out.cell 0
        have e1 := HQ2.out.cell 1
        have e2 := HQ2.out.cell 2
        have e3 := HQ2.out.cell 3
        have e4 := HQ2.out.cell 4
        have e5 := HQ2.out.cell 5
        simp only [List.getElem?_cons_zero, List.getElem?_cons_succ] at e0 e1 e2 e3 e4 e5
        have s0 := HP3.out.cell 0
        simp only [List.getElem?_cons_zero] at s0
        by_cases hk23 : k = 23
        · by_cases h18 : 18 ≤ T.k
          · by_cases h20 : T.k ≤ 20
            · by_cases hs : T.s = ByteArray.empty
              · have c0 : (k == 23) = true := by rw [hk23]; rfl
                have c1 : decide (18 ≤ T.k) = true := decide_eq_true h18
                have c2 : decide (T.k ≤ 20) = true := decide_eq_true h20
                have c3 : T.s.toList.isEmpty = true := by rw [hs]; simp
                clear h18 h20 hs hk23
                go_wp2
                rw [← HW2.out]
                go_ret
                exact ⟨true, rfl, (by intro h; cases h), HG3.out⟩
              · have c0 : (k == 23) = true := by rw [hk23]; rfl
                have c1 : decide (18 ≤ T.k) = true := decide_eq_true h18
                have c2 : decide (T.k ≤ 20) = true := decide_eq_true h20
                have hs2 : ¬ T.s.toList.isEmpty = true := fun e => hs (by rw [List.isEmpty_iff] at e; exact toList_nil e)
                have c3 : T.s.toList.isEmpty = false := by simpa using hs2
                have HNO := Lib.hid hs
                clear h18 h20 hs hs2 hk23
                go_wp2_with (
                  (go_at_call 35)
                  go_must (
                    (rw [← HW2.out])
                    refine HC.out.mono ?_
                    rintro e w3 ⟨b, rfl, hb3, hg4⟩
                    have HP4 := Lib.hid (HP3.out.below hg4 (by have := HZ2.out; omega))
                    have HG4 := Lib.hid (HG3.out.trans (hg4.mono (by have := HZ2.out; omega)))
                    clear hb3 hg4
                    cases b))
                · go_roundw
                  case rel =>
                    exact ⟨m + 1, by omega, by go_num, HP4.out, HG4.out, HST.out.2 (fun hk h18 h20 hs => HNO.out hs)⟩
                  case measure => simp [intOf]; omega
                · go_ret
                  exact ⟨true, rfl, (by intro h; cases h), HG4.out⟩
            · have c0 : (k == 23) = true := by rw [hk23]; rfl
              have c1 : decide (18 ≤ T.k) = true := decide_eq_true h18
              have c2 : decide (T.k ≤ 20) = false := decide_eq_false h20
              have HNO := Lib.hid (show T.k ≤ 20 → False from h20)
              clear h18 h20 hk23
              go_wp2_with (
                (go_at_call 35)
                go_must (
                  (rw [← HW2.out])
                  refine HC.out.mono ?_
                  rintro e w3 ⟨b, rfl, hb3, hg4⟩
                  have HP4 := Lib.hid (HP3.out.below hg4 (by have := HZ2.out; omega))
                  have HG4 := Lib.hid (HG3.out.trans (hg4.mono (by have := HZ2.out; omega)))
                  clear hb3 hg4
                  cases b))
              · go_roundw
                case rel =>
                  exact ⟨m + 1, by omega, by go_num, HP4.out, HG4.out, HST.out.2 (fun hk h18 h20 hs => HNO.out h20)⟩
                case measure => simp [intOf]; omega
              · go_ret
                exact ⟨true, rfl, (by intro h; cases h), HG4.out⟩
          · have c0 : (k == 23) = true := by rw [hk23]; rfl
            have c1 : decide (18 ≤ T.k) = false := decide_eq_false h18
            have HNO := Lib.hid (show 18 ≤ T.k → False from h18)
            clear h18 hk23
            go_wp2_with (
              (go_at_call 35)
              go_must (
                (rw [← HW2.out])
                refine HC.out.mono ?_
                rintro e w3 ⟨b, rfl, hb3, hg4⟩
                have HP4 := Lib.hid (HP3.out.below hg4 (by have := HZ2.out; omega))
                have HG4 := Lib.hid (HG3.out.trans (hg4.mono (by have := HZ2.out; omega)))
                clear hb3 hg4
                cases b))
            · go_roundw
              case rel =>
                exact ⟨m + 1, by omega, by go_num, HP4.out, HG4.out, HST.out.2 (fun hk h18 h20 hs => HNO.out h18)⟩
              case measure => simp [intOf]; omega
            · go_ret
              exact ⟨true, rfl, (by intro h; cases h), HG4.out⟩
        · have c0 : (k == 23) = false := by rw [beq_eq_false_iff_ne]; exact hk23
          have HNO := Lib.hid hk23
          clear hk23
          go_wp2_with (
            (go_at_call 35)
            go_must (
              (rw [← HW2.out])
              refine HC.out.mono ?_
              rintro e w3 ⟨b, rfl, hb3, hg4⟩
              have HP4 := Lib.hid (HP3.out.below hg4 (by have := HZ2.out; omega))
              have HG4 := Lib.hid (HG3.out.trans (hg4.mono (by have := HZ2.out; omega)))
              clear hb3 hg4
              cases b))
          · go_roundw
            case rel =>
              exact ⟨m + 1, by omega, by go_num, HP4.out, HG4.out, HST.out.2 (fun hk h18 h20 hs => HNO.out hk)⟩
            case measure => simp [intOf]; omega
          · go_ret
            exact ⟨true, rfl, (by intro h; cases h), HG4.out⟩
      · obtain rfl : n0 = m := by omega
        go_wp2
        go_ret
        exact ⟨false, rfl, fun _ => HET.out HF2.out, HG2.out⟩
end Go.Proofs.YtjjhckbidcdkcaaDoor
