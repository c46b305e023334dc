/- spec.asciiOnly, spec.arrayFits. PRINTED by wip/genhn.py. -/
import Derived.Test.YtjjhckbidcdkcaaDoorHm
import Derived.Test.YtjjhckbidcdkcaaDoorHk
namespace Go.Proofs.YtjjhckbidcdkcaaDoor
open Go.RowKit
set_option linter.unusedVariables false

set_option maxHeartbeats 4000000 in
set_option maxRecDepth 100000 in
theorem asciiOnly_calls (W : World) (s : ByteArray) (hs : s.size ≤ maxLen) : Calls Tryd.prog 96 #[.string s] W fun e W' => ∃ b : Bool, e = .returned (.bool b) ∧ W' = W := by
  simp only [maxLen] at hs
  go_enter Tryd.func96, Tryd.ntmps96
  go_wp2
  go_loopw [3] (fun i wr => ∃ m : Nat, m ≤ s.size ∧ i = .int .i64 m ∧ wr = W) (fun i _ => s.size - (intOf i).toNat)
  case atStart => exact ⟨0, Nat.zero_le _, rfl, rfl⟩
  case round =>
    obtain ⟨m, hm, rfl, rfl⟩ := hrel
    by_cases hlt : m < s.size
    · go_wp2
      · go_ret
        exact ⟨false, rfl, rfl⟩
      · go_roundw
        case rel => exact ⟨m + 1, by omega, by go_num, by trivial⟩
        case measure => simp [intOf]; omega
    · obtain rfl : s.size = m := by omega
      go_wp2
      go_ret
      exact ⟨true, rfl, rfl⟩
/-- The values of an array are of one kind, and have a descriptor all or none. -/
def AFt (T : VT) : Prop := (T.n false = 0 → 0 ≤ T.o ∧ T.o < 24) ∧ ∀ i, i < T.n false → (T.kid false i).k = (T.kid false 0).k ∧ (T.kid false i).n true = (T.kid false 0).n true
set_option maxHeartbeats 4000000 in
set_option maxRecDepth 100000 in
theorem arrayFits_calls (B : Nat) (W : World) (k u o : Int) (s : ByteArray) (n : Bool → Nat) (f : Bool → Nat → VT) (A : Bool → Option Addr) (c : Bool → Nat) (h : TV W B (.mk k u s o n f) A c) (hB : B ≤ W.heap.size) :
    Calls Tryd.prog 97 #[vV (.mk k u s o n f) A c] W fun e W' => ∃ b : Bool, e = .returned (.bool b) ∧ (b = true → AFt (.mk k u s o n f)) ∧ Below W.heap.size W W' := by
  obtain ⟨hwf, hk⟩ := h.open_
  obtain ⟨hnc0, hcm0, hk0⟩ := hk false
  have hET : (n false = 0 → 0 ≤ o ∧ o < 24) → (∀ i, i < n false → (f false i).k = (f false 0).k ∧ (f false i).n true = (f false 0).n true) → AFt (.mk k u s o n f) := fun h1 h2 => ⟨h1, h2⟩
  generalize AFt (.mk k u s o n f) = P at *
  clear hk h hwf
  unfold vV
  simp only [VT.n, VT.kid] at hnc0 hk0
  simp only [VT.k, VT.u, VT.s, VT.o, VT.n]
  generalize A false = A0 at *
  generalize A true = A1 at *
  generalize c false = c0 at *
  generalize c true = c1 at *
  generalize n false = n0 at *
  generalize n true = n1 at *
  generalize f false = f0 at *
  have hm0 : n0 ≤ 9223372036854775807 := by simp only [maxLen] at hcm0; omega
  have HET := Lib.hid hET
  have HK0 := Lib.hid hk0
  obtain ⟨w1, hw1⟩ : ∃ w1, w1 = W.alloc (.cells #[.int .i64 k, .int .u64 u, .string s, .slice A0 n0 c0, .int .i64 o, .slice A1 n1 c1] 25) := ⟨_, rfl⟩
  have hp1 : Blk w1 W.heap.size 25 [.int .i64 k, .int .u64 u, .string s, .slice A0 n0 c0, .int .i64 o, .slice A1 n1 c1] := by rw [hw1]; exact Blk.new W 25 [.int .i64 k, .int .u64 u, .string s, .slice A0 n0 c0, .int .i64 o, .slice A1 n1 c1]
  have hb1 : Below W.heap.size W w1 := by rw [hw1]; exact (Below.refl _ W).alloc (Nat.le_refl _) _
  have hz1 : w1.heap.size = W.heap.size + 1 := by rw [hw1]; simp
  have HW1 := Lib.hid hw1
  have HP1 := Lib.hid hp1
  have HB1 := Lib.hid hb1
  clear hET hk0 hw1 hp1 hb1
  by_cases hn : n0 = 0
  · subst hn
    by_cases o0 : 0 ≤ o
    · by_cases o1 : o < 24
      · go_enter Tryd.func97, Tryd.ntmps97
        go_wp2
        rw [← HW1.out]
        go_ret
        first
          | exact .inr ⟨rfl, HET.out (fun _ => ⟨o0, o1⟩) (fun i hi => absurd hi (by omega)), HB1.out⟩
          | exact ⟨true, rfl, fun _ => HET.out (fun _ => ⟨o0, o1⟩) (fun i hi => absurd hi (by omega)), HB1.out⟩
      · go_enter Tryd.func97, Tryd.ntmps97
        go_wp2
        rw [← HW1.out]
        go_ret
        first
          | exact .inl ⟨rfl, HB1.out⟩
          | exact ⟨false, rfl, (by intro h; cases h), HB1.out⟩
    · go_enter Tryd.func97, Tryd.ntmps97
      go_wp2
      rw [← HW1.out]
      go_ret
      first
        | exact .inl ⟨rfl, HB1.out⟩
        | exact ⟨false, rfl, (by intro h; cases h), HB1.out⟩
  have hn2 : 0 < n0 := by omega
  have hn3 : ((n0 : Int) == 0) = false := by rw [beq_eq_false_iff_ne]; omega
  clear hn
  obtain ⟨g, p, hA, hgB, hk⟩ := HK0.out hn2
  obtain ⟨Aj, cj, hva0, htk0⟩ := hk 0 hn2
  rw [Nat.zero_mul, Nat.add_zero] at hva0
  subst hA
  have HVA0 := Lib.hid hva0
  have HTK0 := Lib.hid htk0
  have HKS := Lib.hid hk
  clear hk hva0 htk0 HK0
  go_enter Tryd.func97, Tryd.ntmps97
  go_wp2
  rw [← HW1.out]
  go_loopw [20] (fun i wr => ∃ m : Nat, m ≤ n0 ∧ i = .int .i64 m ∧ Hid (Below w1.heap.size w1 wr ∧ ∀ i, i < m → (f0 i).k = (f0 0).k ∧ (f0 i).n true = (f0 0).n true)) (fun i _ => n0 - (intOf i).toNat)
  case atStart => exact ⟨0, Nat.zero_le _, rfl, Below.refl _ _, fun i hi => absurd hi (by omega)⟩
  case round =>
    obtain ⟨m, hm, rfl, hrest⟩ := hrel
    obtain ⟨hg2, hall⟩ := hrest.out
    have hwz : w1.heap.size ≤ wr.heap.size := hg2.size
    have hbw : Below W.heap.size W wr := HB1.out.trans (hg2.mono (by omega))
    have HALL := Lib.hid hall
    have HG2 := Lib.hid hg2
    have HBW := Lib.hid hbw
    have hba := HP1.out.below hg2 HP1.out.lt
    have y4 := hba.cell 4
    simp only [List.getElem?_cons_zero, List.getElem?_cons_succ] at y4
    clear hrest hg2 hall hbw hba
    by_cases hlt : m < n0
    · obtain ⟨Ai, ci, hva, htk⟩ := HKS.out m hlt
      have hva2 := hva.keep (W' := wr) (fun q => (HBW.out.mono hB).cell (p := ⟨g, q, none⟩) hgB)
      obtain ⟨d0, d1, d2, d3, d4, d5⟩ := hva2
      obtain ⟨w2, hw2⟩ : ∃ w2, w2 = wr.alloc (.cells #[.int .i64 (f0 m).k, .int .u64 (f0 m).u, .string (f0 m).s, .slice (Ai false) ((f0 m).n false) (ci false), .int .i64 (f0 m).o, .slice (Ai true) ((f0 m).n true) (ci true)] 25) := ⟨_, rfl⟩
      have hq2 : Blk w2 wr.heap.size 25 [.int .i64 (f0 m).k, .int .u64 (f0 m).u, .string (f0 m).s, .slice (Ai false) ((f0 m).n false) (ci false), .int .i64 (f0 m).o, .slice (Ai true) ((f0 m).n true) (ci true)] := by rw [hw2]; exact Blk.new wr _ [.int .i64 (f0 m).k, .int .u64 (f0 m).u, .string (f0 m).s, .slice (Ai false) ((f0 m).n false) (ci false), .int .i64 (f0 m).o, .slice (Ai true) ((f0 m).n true) (ci true)]
      have hg3 : Below w1.heap.size w1 w2 := by rw [hw2]; exact HG2.out.alloc hwz _
      have hbw2 : Below W.heap.size W w2 := HB1.out.trans (hg3.mono (by omega))
      have hp3 := HP1.out.below hg3 HP1.out.lt
      have htk2 : TV w2.drew B (f0 m) Ai ci := TV.below (hbw2.mono hB).drew _ _ _ htk
      have htk3 : TV w2.drew B (f0 0) Aj cj := TV.below (hbw2.mono hB).drew _ _ _ HTK0.out
      have hva3 := HVA0.out.keep (W' := w2) (fun q => (hbw2.mono hB).cell (p := ⟨g, q, none⟩) hgB)
      have hst : (f0 m).k = (f0 0).k → (f0 m).n true = (f0 0).n true → ∀ i, i < m + 1 → (f0 i).k = (f0 0).k ∧ (f0 i).n true = (f0 0).n true := fun h1 h2 i hi => by
        by_cases him : i = m
        · subst him; exact ⟨h1, h2⟩
        · exact HALL.out i (by omega)
      have hz2 : W.heap.size + 1 ≤ w2.heap.size := by have := hg3.size; omega
      obtain ⟨hb2f, hb2d⟩ := (show _ ∧ _ from ⟨(htk2.open_).1, (htk2.open_).2 true⟩)
      have hb3d := (htk3.open_).2 true
      have HQ2 := Lib.hid hq2
      have HG3 := Lib.hid hg3
      have HBW2 := Lib.hid hbw2
      have HP3 := Lib.hid hp3
      have HST := Lib.hid hst
      have HW2 := Lib.hid hw2
      have HD2 := Lib.hid hb2d
      have HD3 := Lib.hid hb3d
      clear hva htk hq2 hg3 hbw2 hp3 htk2 htk3 hst hw2 hb2f hb2d hb3d
      generalize f0 m = T at *
      generalize f0 0 = Tz at *
      obtain ⟨z0, z1, z2, z3, z4, z5⟩ := hva3
      have x0 := HQ2.out.cell 0
      have x5 := HQ2.out.cell 5
      have y3 := HP3.out.cell 3
      simp only [List.getElem?_cons_zero, List.getElem?_cons_succ] at x0 x5 y3
      go_wp2
      rw [← HW2.out]
      by_cases e1 : T.k = Tz.k
      case neg =>
        have e1b : (T.k != Tz.k) = true := by rw [bne_iff_ne]; exact e1
        go_quiet (fail)
        go_wp2
        go_ret
        exact ⟨false, rfl, (by intro h; cases h), below_drewN HBW2.out _⟩
      have e1b : (T.k != Tz.k) = false := by rw [e1]; simp
      by_cases e2 : T.n true = Tz.n true
      case neg =>
        have e2b : ((T.n true : Int) != (Tz.n true : Int)) = true := by rw [bne_iff_ne]; omega
        have HE1 := Lib.hid e1
        clear e1
        go_quiet (fail)
        go_wp2
        go_ret
        exact ⟨false, rfl, (by intro h; cases h), below_drewN HBW2.out _⟩
      have e2b : ((T.n true : Int) != (Tz.n true : Int)) = false := by rw [e2]; simp
      by_cases e3 : T.n true = 1
      case neg =>
        have e3b : ((T.n true : Int) == 1) = false := by rw [beq_eq_false_iff_ne]; omega
        have HE1 := Lib.hid e1
        have HE2 := Lib.hid e2
        clear e1 e2 e3
        go_quiet (fail)
        go_wp2
        go_roundw
        case rel => exact ⟨m + 1, by omega, by go_num, below_drewN HG3.out _, HST.out HE1.out HE2.out⟩
        case measure => simp [intOf]; omega
      obtain ⟨gd, pd, hAd, hgd, hkd⟩ := HD2.out.2.2 (by omega)
      obtain ⟨Ad, cd, hvad, htd⟩ := hkd 0 (by omega)
      obtain ⟨ge, pe, hAe, hge, hke⟩ := HD3.out.2.2 (by omega)
      obtain ⟨Ae, ce, hvae, hte⟩ := hke 0 (by omega)
      rw [Nat.zero_mul, Nat.add_zero] at hvad hvae
      have hcall := sameValue_calls B _ _ w2.drew Ad Ae cd ce htd hte (by simp; omega)
      obtain ⟨p0, p1, p2, p3, p4, p5⟩ := hvad.keep (W' := w2) (fun q => rfl)
      obtain ⟨r0, r1, r2, r3, r4, r5⟩ := hvae.keep (W' := w2) (fun q => rfl)
      have HE1 := Lib.hid e1
      have HE2 := Lib.hid e2
      have e3b : ((T.n true : Int) == 1) = true := by rw [e3]; rfl
      have hj1 : (0 : Int) < (T.n true : Int) := by omega
      have hj2 : 0 < T.n true := by omega
      have hj3 : (0 : Int) < (Tz.n true : Int) := by omega
      have hj4 : 0 < Tz.n true := by omega
      unfold vV at hcall
      rw [hAd] at x5
      rw [hAe] at z5
      have HC := Lib.hid hcall
      clear e1 e2 e3 hcall hkd hke hvad hvae htd hte
      generalize T.kid true 0 = X at *
      generalize Tz.kid true 0 = Y at *
      generalize sameV X Y = bb at *
      go_still_tail 37, (by kernel_rfl)
      change wpList _ _ _ _ _ w2.drew
      cases bb
      · go_wp2_with (
          (go_at_call 15)
          go_must (
            (refine HC.out.mono ?_)
            rintro r w3 ⟨rfl, hb3⟩
            have HB3 := Lib.hid (HBW2.out.drew.trans (hb3.mono (show W.heap.size ≤ w2.drew.heap.size by simp; omega)))
            clear hb3))
        go_ret
        exact ⟨false, rfl, (by intro h; cases h), HB3.out⟩
      · go_wp2_with (
          (go_at_call 15)
          go_must (
            (refine HC.out.mono ?_)
            rintro r w3 ⟨rfl, hb3⟩
            have HB3 := Lib.hid (HG3.out.drew.trans (hb3.mono (show w1.heap.size ≤ w2.drew.heap.size by simp; omega)))
            clear hb3))
        go_roundw
        case rel => exact ⟨m + 1, by omega, by go_num, HB3.out, HST.out HE1.out HE2.out⟩
        case measure => simp [intOf]; omega
    · obtain rfl : n0 = m := by omega
      go_wp2
      go_ret
      exact ⟨_, rfl, fun _ => HET.out (fun h => absurd h (by omega)) HALL.out, HBW.out⟩
end Go.Proofs.YtjjhckbidcdkcaaDoor
