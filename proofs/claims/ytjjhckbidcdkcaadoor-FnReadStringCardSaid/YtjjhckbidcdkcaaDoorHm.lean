/- spec.SameValue of any two values. PRINTED by wip/genhm.py. -/
import Derived.Lib.Hide
import Derived.Deep.DeepMust
import Derived.StillTailTactics
import Derived.BigQuiet
import Derived.Test.YtjjhckbidcdkcaaDoorHa
import Derived.Test.YtjjhckbidcdkcaaDoorMap
namespace Go.Proofs.YtjjhckbidcdkcaaDoor
open Go.RowKit
set_option linter.unusedVariables false

def allB (p : Nat → Bool) : Nat → Bool
  | 0 => true
  | n + 1 => allB p n && p n
theorem allB_false (p : Nat → Bool) {m : Nat} : ∀ n, m < n → p m = false → allB p n = false
  | n + 1, h, hp => by
    unfold allB
    by_cases e : m = n
    · subst e; rw [hp, Bool.and_false]
    · rw [allB_false p n (by omega) hp, Bool.false_and]
/-- What spec.SameValue tells. -/
def sameV : VT → VT → Bool
  | .nil, _ => false
  | .mk k u s o n f, T => decide (k = T.k) && decide (u = T.u) && decide (s = T.s) && decide (n false = T.n false) && decide (n true = T.n true) && allB (fun i => sameV (f false i) (T.kid false i)) (n false) && (decide (n true = 0) || sameV (f true 0) (T.kid true 0))
theorem ret_b {a b : Bool} (h : a = b) : Ending.returned (.bool a) = .returned (.bool b) := by rw [h]
set_option maxHeartbeats 4000000 in
set_option maxRecDepth 100000 in
theorem sameValue_calls (B : Nat) : ∀ (T T' : VT) (W : World) (A A' : Bool → Option Addr) (c c' : Bool → Nat), TV W B T A c → TV W B T' A' c' → B ≤ W.heap.size →
    Calls Tryd.prog 15 #[vV T A c, vV T' A' c'] W fun e W' => e = .returned (.bool (sameV T T')) ∧ Below W.heap.size W W'
  | .mk k u s o n f, .mk k' u' s' o' n' f', W, A, A', c, c', h, h', hB => by
    have ih0 := fun i => sameValue_calls B (f false i) (f' false i)
    have ih1 := sameValue_calls B (f true 0) (f' true 0)
    obtain ⟨hwf, hk⟩ := h.open_
    obtain ⟨hnc0, hcm0, hk0⟩ := hk false
    obtain ⟨hnc1, hcm1, hk1⟩ := hk true
    obtain ⟨hwf', hk'⟩ := h'.open_
    obtain ⟨hnc0', hcm0', hk0'⟩ := hk' false
    obtain ⟨hnc1', hcm1', hk1'⟩ := hk' true
    clear hk h hwf hk' h' hwf'
    have hsv : sameV (.mk k u s o n f) (.mk k' u' s' o' n' f') = (decide (k = k') && decide (u = u') && decide (s = s') && decide (n false = n' false) && decide (n true = n' true) && allB (fun i => sameV (f false i) (f' false i)) (n false) && (decide (n true = 0) || sameV (f true 0) (f' true 0))) := rfl
    generalize sameV (.mk k u s o n f) (.mk k' u' s' o' n' f') = R at *
    unfold vV
    simp only [VT.n, VT.kid] at hnc0 hk0 hnc1 hk1 hnc0' hk0' hnc1' hk1'
    simp only [VT.k, VT.u, VT.s, VT.o, VT.n]
    generalize A false = A0 at *
    generalize A true = A1 at *
    generalize c false = c0 at *
    generalize c true = c1 at *
    generalize n false = n0 at *
    generalize n true = n1 at *
    generalize f false = f0 at *
    generalize f true = f1 at *
    generalize A' false = A0' at *
    generalize A' true = A1' at *
    generalize c' false = c0' at *
    generalize c' true = c1' at *
    generalize n' false = n0' at *
    generalize n' true = n1' at *
    generalize f' false = f0' at *
    generalize f' true = f1' at *
    have HIH0 := Lib.hid ih0
    have HIH1 := Lib.hid ih1
    have HK0 := Lib.hid hk0
    have HK1 := Lib.hid hk1
    have HK0' := Lib.hid hk0'
    have HK1' := Lib.hid hk1'
    have hm0 : n0 ≤ 9223372036854775807 := by simp only [maxLen] at hcm0; omega
    have hm1 : n1 ≤ 9223372036854775807 := by simp only [maxLen] at hcm1; omega
    have hm0' : n0' ≤ 9223372036854775807 := by simp only [maxLen] at hcm0'; omega
    have hm1' : n1' ≤ 9223372036854775807 := by simp only [maxLen] at hcm1'; omega
    clear ih0 ih1 hk0 hk1 hk0' hk1'
    by_cases hK : k = k'
    case neg =>
      rw [decide_eq_false hK] at hsv
      simp only [Bool.false_and] at hsv
      have e1 : (k != k') = true := by rw [bne_iff_ne]; exact hK
      have HSV := Lib.hid hsv
      clear hsv
      go_enter Tryd.func15, Tryd.ntmps15
      go_wp2
      go_ret
      exact ⟨ret_b HSV.out.symm, ((Below.refl _ W).alloc (Nat.le_refl _) _).alloc (by simp) _⟩
    subst hK
    by_cases hU : u = u'
    case neg =>
      rw [decide_eq_false hU] at hsv
      simp only [Bool.and_false, Bool.false_and] at hsv
      have e1 : (u != u') = true := by rw [bne_iff_ne]; exact hU
      have HSV := Lib.hid hsv
      clear hsv
      go_enter Tryd.func15, Tryd.ntmps15
      go_wp2
      go_ret
      exact ⟨ret_b HSV.out.symm, ((Below.refl _ W).alloc (Nat.le_refl _) _).alloc (by simp) _⟩
    subst hU
    by_cases hS : s = s'
    case neg =>
      rw [decide_eq_false hS] at hsv
      simp only [Bool.and_false, Bool.false_and] at hsv
      have e1 : (s.toList == s'.toList) = false := by
        rw [beq_eq_false_iff_ne]
        intro e
        rw [ByteArray.toList_eq, ByteArray.toList_eq] at e
        exact hS (ByteArray.ext (Array.toList_inj.1 e))
      have HSV := Lib.hid hsv
      clear hsv
      go_enter Tryd.func15, Tryd.ntmps15
      go_wp2
      go_ret
      exact ⟨ret_b HSV.out.symm, ((Below.refl _ W).alloc (Nat.le_refl _) _).alloc (by simp) _⟩
    subst hS
    by_cases h0 : n0 = n0'
    case neg =>
      rw [decide_eq_false h0] at hsv
      simp only [Bool.and_false, Bool.false_and] at hsv
      have e1 : ((n0 : Int) != (n0' : Int)) = true := by rw [bne_iff_ne]; omega
      have HSV := Lib.hid hsv
      clear hsv
      go_enter Tryd.func15, Tryd.ntmps15
      go_wp2
      go_ret
      exact ⟨ret_b HSV.out.symm, ((Below.refl _ W).alloc (Nat.le_refl _) _).alloc (by simp) _⟩
    subst h0
    by_cases h1 : n1 = n1'
    case neg =>
      rw [decide_eq_false h1] at hsv
      simp only [Bool.and_false, Bool.false_and] at hsv
      have e1 : ((n1 : Int) != (n1' : Int)) = true := by rw [bne_iff_ne]; omega
      have HSV := Lib.hid hsv
      clear hsv
      go_enter Tryd.func15, Tryd.ntmps15
      go_wp2
      go_ret
      exact ⟨ret_b HSV.out.symm, ((Below.refl _ W).alloc (Nat.le_refl _) _).alloc (by simp) _⟩
    subst h1
    simp only [decide_true, Bool.true_and] at hsv
    have HSV := Lib.hid hsv
    obtain ⟨w1, hw1⟩ : ∃ w1, w1 = (W.alloc (.cells #[.int .i64 k, .int .u64 u, .string s, .slice A0 n0 c0, .int .i64 o, .slice A1 n1 c1] 25)).alloc (.cells #[.int .i64 k, .int .u64 u, .string s, .slice A0' n0 c0', .int .i64 o', .slice A1' n1 c1'] 25) := ⟨_, rfl⟩
    have hp1 : Blk w1 W.heap.size 25 [.int .i64 k, .int .u64 u, .string s, .slice A0 n0 c0, .int .i64 o, .slice A1 n1 c1] := by rw [hw1]; exact (Blk.new W 25 [.int .i64 k, .int .u64 u, .string s, .slice A0 n0 c0, .int .i64 o, .slice A1 n1 c1]).alloc _
    have hp2 : Blk w1 (W.heap.size + 1) 25 [.int .i64 k, .int .u64 u, .string s, .slice A0' n0 c0', .int .i64 o', .slice A1' n1 c1'] := by
      rw [hw1]
      have := Blk.new (W.alloc (.cells #[.int .i64 k, .int .u64 u, .string s, .slice A0 n0 c0, .int .i64 o, .slice A1 n1 c1] 25)) 25 [.int .i64 k, .int .u64 u, .string s, .slice A0' n0 c0', .int .i64 o', .slice A1' n1 c1']
      rwa [show (W.alloc (.cells #[.int .i64 k, .int .u64 u, .string s, .slice A0 n0 c0, .int .i64 o, .slice A1 n1 c1] 25)).heap.size = W.heap.size + 1 by simp] at this
    have hb1 : Below W.heap.size W w1 := by rw [hw1]; exact ((Below.refl _ W).alloc (Nat.le_refl _) _).alloc (by simp) _
    have HW1 := Lib.hid hw1
    have HP1 := Lib.hid hp1
    have HP2 := Lib.hid hp2
    have HB1 := Lib.hid hb1
    clear hsv hw1 hp1 hp2 hb1
    go_enter Tryd.func15, Tryd.ntmps15
    go_wp2
    rw [← HW1.out]
    have hz1 : W.heap.size + 2 = w1.heap.size := by rw [HW1.out]; simp
    go_loopw [46] (fun i wr => ∃ m : Nat, m ≤ n0 ∧ i = .int .i64 m ∧ Hid (Below w1.heap.size w1 wr ∧ allB (fun i => sameV (f0 i) (f0' i)) m = true)) (fun i _ => n0 - (intOf i).toNat)
    case atStart => exact ⟨0, Nat.zero_le _, rfl, Below.refl _ _, rfl⟩
    case round =>
      obtain ⟨m, hm, rfl, hrest⟩ := hrel
      obtain ⟨hg2, hall⟩ := hrest.out
      have hwz : w1.heap.size ≤ wr.heap.size := hg2.size
      have hba := HP1.out.below hg2 HP1.out.lt
      have hbb := HP2.out.below hg2 HP2.out.lt
      have hbel : Below B W wr := (HB1.out.mono hB).trans (hg2.mono (by omega))
      have hbw : Below W.heap.size W wr := HB1.out.trans (hg2.mono (by omega))
      have v3 := hba.cell 3
      have v5 := hba.cell 5
      have x3 := hbb.cell 3
      have x5 := hbb.cell 5
      simp only [List.getElem?_cons_zero, List.getElem?_cons_succ] at v3 v5 x3 x5
      have HALL := Lib.hid hall
      have HG2 := Lib.hid hg2
      have HBEL := Lib.hid hbel
      have HBW := Lib.hid hbw
      clear hrest hg2 hall hba hbb hbel hbw
      by_cases hlt : m < n0
      · obtain ⟨ga, pa, hA, hgB, hk⟩ := HK0.out (show 0 < n0 by omega)
        obtain ⟨Ai, ci, hva, htk⟩ := hk m hlt
        obtain ⟨gb, pb, hA', hgB', hk'⟩ := HK0'.out (show 0 < n0 by omega)
        obtain ⟨Ai', ci', hva', htk'⟩ := hk' m hlt
        have hva2 := hva.keep (W' := wr) (fun q => HBEL.out.cell (p := ⟨ga, q, none⟩) hgB)
        obtain ⟨d0, d1, d2, d3, d4, d5⟩ := hva2
        have hva3 := hva'.keep (W' := wr) (fun q => HBEL.out.cell (p := ⟨gb, q, none⟩) hgB')
        obtain ⟨e0, e1, e2, e3, e4, e5⟩ := hva3
        have hcall := HIH0.out m wr.drew Ai Ai' ci ci' (TV.below HBEL.out.drew _ _ _ htk) (TV.below HBEL.out.drew _ _ _ htk') (by simp; omega)
        have halls : allB (fun i => sameV (f0 i) (f0' i)) (m + 1) = (allB (fun i => sameV (f0 i) (f0' i)) m && sameV (f0 m) (f0' m)) := rfl
        have hallf := fun hp => allB_false (fun i => sameV (f0 i) (f0' i)) (m := m) n0 hlt hp
        unfold vV at hcall
        subst hA
        subst hA'
        have HC := Lib.hid hcall
        clear hk hva htk hcall hk' hva' htk'
        generalize f0 m = T at *
        generalize f0' m = T' at *
        generalize sameV T T' = bb at *
        have HAS := Lib.hid halls
        have HAF := Lib.hid hallf
        clear halls hallf
        have hj1 : (0 : Int) ≤ (m : Int) := by omega
        have hj2 : (m : Int) < (n0 : Int) := by omega
        go_wp2
        go_still_tail 10, (by kernel_rfl)
        change wpList _ _ _ _ _ wr.drew
        cases bb
        · go_wp2_with (
            (go_at_call 15)
            go_must (
              (refine HC.out.mono ?_)
              rintro r w2 ⟨rfl, hb2⟩
              have HB2 := Lib.hid (HBW.out.drew.trans (hb2.mono (show W.heap.size ≤ wr.drew.heap.size by simp; omega)))
              clear hb2))
          go_ret
          refine ⟨ret_b ?_, HB2.out⟩
          rw [HSV.out, HAF.out (by trivial), Bool.false_and]
        · go_wp2_with (
            (go_at_call 15)
            go_must (
              (refine HC.out.mono ?_)
              rintro r w2 ⟨rfl, hb2⟩
              have HB2 := Lib.hid (HG2.out.drew.trans (hb2.mono (show w1.heap.size ≤ wr.drew.heap.size by simp; omega)))
              clear hb2))
          go_roundw
          case rel => exact ⟨m + 1, by omega, by go_num, HB2.out, by rw [HAS.out, HALL.out]; rfl⟩
          case measure => simp [intOf]; omega
      · obtain rfl : n0 = m := by omega
        have hall := HALL.out
        by_cases hd : n1 = 0
        · subst hd
          go_wp2
          go_quiet (fail)
          go_wp2
          go_ret
          refine ⟨ret_b ?_, below_drewN HBW.out _⟩
          rw [HSV.out, hall]
          rfl
        · obtain ⟨ga, pa, hA, hgB, hk⟩ := HK1.out (show 0 < n1 by omega)
          obtain ⟨Ai, ci, hva, htk⟩ := hk 0 (by omega)
          obtain ⟨gb, pb, hA', hgB', hk'⟩ := HK1'.out (show 0 < n1 by omega)
          obtain ⟨Ai', ci', hva', htk'⟩ := hk' 0 (by omega)
          have hva2 := hva.keep (W' := wr) (fun q => HBEL.out.cell (p := ⟨ga, q, none⟩) hgB)
          rw [Nat.zero_mul, Nat.add_zero] at hva2
          obtain ⟨d0, d1, d2, d3, d4, d5⟩ := hva2
          have hva3 := hva'.keep (W' := wr) (fun q => HBEL.out.cell (p := ⟨gb, q, none⟩) hgB')
          rw [Nat.zero_mul, Nat.add_zero] at hva3
          obtain ⟨e0, e1, e2, e3, e4, e5⟩ := hva3
          have hcall := HIH1.out wr.drew Ai Ai' ci ci' (TV.below HBEL.out.drew _ _ _ htk) (TV.below HBEL.out.drew _ _ _ htk') (by simp; omega)
          have hres : R = sameV (f1 0) (f1' 0) := by rw [HSV.out, hall, decide_eq_false hd]; simp
          unfold vV at hcall
          subst hA
          subst hA'
          have HC := Lib.hid hcall
          clear hk hva htk hcall hk' hva' htk'
          generalize f1 0 = T at *
          generalize f1' 0 = T' at *
          generalize sameV T T' = bb at *
          have HRES := Lib.hid hres
          have hd2 : decide ((n1 : Int) = 0) = false := decide_eq_false (by omega)
          have hd3 : ((n1 : Int) == 0) = false := by rw [beq_eq_false_iff_ne]; omega
          have hj2 : (0 : Int) < (n1 : Int) := by omega
          have hj3 : 0 < n1 := by omega
          clear hres hall
          go_wp2
          go_still_tail 13, (by kernel_rfl)
          change wpList _ _ _ _ _ wr.drew
          go_wp2_with (
            (go_at_call 15)
            go_must (
              (refine HC.out.mono ?_)
              rintro r w2 ⟨rfl, hb2⟩
              have HB2 := Lib.hid (HBW.out.drew.trans (hb2.mono (show W.heap.size ≤ wr.drew.heap.size by simp; omega)))
              clear hb2))
          go_ret
          exact ⟨ret_b HRES.out.symm, HB2.out⟩
end Go.Proofs.YtjjhckbidcdkcaaDoor
