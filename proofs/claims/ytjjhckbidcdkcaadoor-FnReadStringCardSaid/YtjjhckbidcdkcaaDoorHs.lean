/- spec.valueFits, spec.ValueFits. PRINTED by wip/genhp.py. · spec.ValueFits. PRINTED by wip/genhp.py. -/
import Derived.Test.YtjjhckbidcdkcaaDoorHp
import Derived.Test.YtjjhckbidcdkcaaDoorHq
import Derived.Test.YtjjhckbidcdkcaaDoorHc
namespace Go.Proofs.YtjjhckbidcdkcaaDoor
open Go.RowKit
set_option linter.unusedVariables false

set_option maxHeartbeats 4000000 in
set_option maxRecDepth 100000 in
theorem vf_neg (B : Nat) (k u o : Int) (s : ByteArray) (n : Bool → Nat) (f : Bool → Nat → VT) (hk : k < 0) : VFc B (.mk k u s o n f) := by
  intro W A c lv h hB hU hl0 hl1
  clear h
  generalize FitsV (.mk k u s o n f) = P
  unfold vV
  simp only [VT.k, VT.u, VT.s, VT.o, VT.n]
  generalize A false = A0
  generalize A true = A1
  generalize c false = c0
  generalize c true = c1
  generalize n false = n0
  generalize n true = n1
  obtain ⟨w1, hw1⟩ : ∃ w1, w1 = W.alloc (.cells #[.int .i64 k, .int .u64 u, .string s, .slice A0 n0 c0, .int .i64 o, .slice A1 n1 c1] 25) := ⟨_, rfl⟩
  have hp1 : Blk w1 W.heap.size 25 [.int .i64 k, .int .u64 u, .string s, .slice A0 n0 c0, .int .i64 o, .slice A1 n1 c1] := by rw [hw1]; exact Blk.new W 25 [.int .i64 k, .int .u64 u, .string s, .slice A0 n0 c0, .int .i64 o, .slice A1 n1 c1]
  have hb1 : Below W.heap.size W w1 := by rw [hw1]; exact (Below.refl _ W).alloc (Nat.le_refl _) _
  have v0 := hp1.cell 0
  simp only [List.getElem?_cons_zero] at v0
  have HW1 := Lib.hid hw1
  have HB1 := Lib.hid hb1
  clear hw1 hp1 hb1
  have t0 : (k == 21) = false := beq_eq_false_iff_ne.2 (by omega)
  have t1 : (k == 22) = false := beq_eq_false_iff_ne.2 (by omega)
  have t2 : (k == 23) = false := beq_eq_false_iff_ne.2 (by omega)
  have t3 : decide (17 ≤ k) = false := decide_eq_false (by omega)
  have t4 : decide (k ≤ 20) = true := decide_eq_true (by omega)
  have t5 : (k == 14) = false := beq_eq_false_iff_ne.2 (by omega)
  have t6 : decide (1 ≤ k) = false := decide_eq_false (by omega)
  have t7 : decide (k ≤ 16) = true := decide_eq_true (by omega)
  have t8 : (k != 14) = true := bne_iff_ne.2 (by omega)
  have t9 : decide (k < 0) = true := decide_eq_true (by omega)
  have t10 : decide (24 ≤ k) = false := decide_eq_false (by omega)
  clear hk
  go_enter Tryd.func63, Tryd.ntmps63
  go_upto_region 1 with (fail)
  rw [← HW1.out]
  go_wp2
  all_goals
    go_ret
    exact ⟨false, rfl, (by intro h; cases h), HB1.out⟩
set_option maxHeartbeats 4000000 in
set_option maxRecDepth 100000 in
theorem vf_big (B : Nat) (k u o : Int) (s : ByteArray) (n : Bool → Nat) (f : Bool → Nat → VT) (hk : 24 ≤ k) : VFc B (.mk k u s o n f) := by
  intro W A c lv h hB hU hl0 hl1
  clear h
  generalize FitsV (.mk k u s o n f) = P
  unfold vV
  simp only [VT.k, VT.u, VT.s, VT.o, VT.n]
  generalize A false = A0
  generalize A true = A1
  generalize c false = c0
  generalize c true = c1
  generalize n false = n0
  generalize n true = n1
  obtain ⟨w1, hw1⟩ : ∃ w1, w1 = W.alloc (.cells #[.int .i64 k, .int .u64 u, .string s, .slice A0 n0 c0, .int .i64 o, .slice A1 n1 c1] 25) := ⟨_, rfl⟩
  have hp1 : Blk w1 W.heap.size 25 [.int .i64 k, .int .u64 u, .string s, .slice A0 n0 c0, .int .i64 o, .slice A1 n1 c1] := by rw [hw1]; exact Blk.new W 25 [.int .i64 k, .int .u64 u, .string s, .slice A0 n0 c0, .int .i64 o, .slice A1 n1 c1]
  have hb1 : Below W.heap.size W w1 := by rw [hw1]; exact (Below.refl _ W).alloc (Nat.le_refl _) _
  have v0 := hp1.cell 0
  simp only [List.getElem?_cons_zero] at v0
  have HW1 := Lib.hid hw1
  have HB1 := Lib.hid hb1
  clear hw1 hp1 hb1
  have t0 : (k == 21) = false := beq_eq_false_iff_ne.2 (by omega)
  have t1 : (k == 22) = false := beq_eq_false_iff_ne.2 (by omega)
  have t2 : (k == 23) = false := beq_eq_false_iff_ne.2 (by omega)
  have t3 : decide (17 ≤ k) = true := decide_eq_true (by omega)
  have t4 : decide (k ≤ 20) = false := decide_eq_false (by omega)
  have t5 : (k == 14) = false := beq_eq_false_iff_ne.2 (by omega)
  have t6 : decide (1 ≤ k) = true := decide_eq_true (by omega)
  have t7 : decide (k ≤ 16) = false := decide_eq_false (by omega)
  have t8 : (k != 14) = true := bne_iff_ne.2 (by omega)
  have t9 : decide (k < 0) = false := decide_eq_false (by omega)
  have t10 : decide (24 ≤ k) = true := decide_eq_true (by omega)
  clear hk
  go_enter Tryd.func63, Tryd.ntmps63
  go_upto_region 1 with (fail)
  rw [← HW1.out]
  go_wp2
  all_goals
    go_ret
    exact ⟨false, rfl, (by intro h; cases h), HB1.out⟩
theorem valueFits_calls (B : Nat) : ∀ T : VT, VFc B T
  | .nil => fun W A c lv h => h.elim
  | .mk k u s o n f => by
    have ih := fun b i => valueFits_calls B (f b i)
    rcases (show k < 0 ∨ k = 0 ∨ (1 ≤ k ∧ k ≤ 16 ∧ k ≠ 14) ∨ k = 14 ∨ (17 ≤ k ∧ k ≤ 20) ∨ k = 21 ∨ k = 22 ∨ k = 23 ∨ 24 ≤ k by omega) with h | h | h | h | h | h | h | h | h
    · exact vf_neg B k u o s n f h
    · exact vf_zero B k u o s n f ih h
    · exact vf_num B k u o s n f ih h
    · exact vf_dec B k u o s n f ih h
    · exact vf_txt B k u o s n f ih h
    · exact vf_lst B k u o s n f ih h
    · exact vf_map B k u o s n f ih h
    · exact vf_arr B k u o s n f ih h
    · exact vf_big B k u o s n f h
end Go.Proofs.YtjjhckbidcdkcaaDoor

namespace Go.Proofs.YtjjhckbidcdkcaaDoor
open Go.RowKit
set_option linter.unusedVariables false

set_option maxHeartbeats 4000000 in
set_option maxRecDepth 100000 in
theorem ValueFits_calls (B : Nat) (T : VT) (W : World) (A : Bool → Option Addr) (c : Bool → Nat) (lv : Int) (h : TV W B T A c) (hB : B ≤ W.heap.size) (hU : UT B W) (hl0 : 0 ≤ lv) (hl1 : lv ≤ 6) :
    Calls Tryd.prog 33 #[vV T A c, .int .i64 lv] W (VPost (FitsV T ∧ T.cnt ≤ 2000) W) := by
  have HT := Lib.hid h
  have HU := Lib.hid hU
  obtain ⟨w1, hw1⟩ : ∃ w1, w1 = W.alloc (.cells (cV T A c).toArray 25) := ⟨_, rfl⟩
  obtain ⟨w2, hw2⟩ : ∃ w2, w2 = w1.alloc (.cells #[.int .i64 2000] 3) := ⟨_, rfl⟩
  have hz1 : w1.heap.size = W.heap.size + 1 := by rw [hw1]; simp
  have hp1 : Blk w1 W.heap.size 25 (cV T A c) := by rw [hw1]; exact Blk.new W 25 (cV T A c)
  have hp2 : Blk w2 W.heap.size 25 (cV T A c) := by rw [hw2]; exact hp1.alloc _
  have hq2 : Blk w2 (W.heap.size + 1) 3 [.int .i64 2000] := by rw [hw2, ← hz1]; exact Blk.new w1 _ [_]
  have hb2 : Below W.heap.size W w2 := by rw [hw2, hw1]; exact ((Below.refl _ W).alloc (Nat.le_refl _) _).alloc (by simp) _
  have hz2 : w2.heap.size = W.heap.size + 2 := by rw [hw2]; simp [hz1]
  have hcall := fewValues_calls B T w2 (W.heap.size + 1) 2000 A c (TV.below (hb2.mono hB) _ _ _ h) (by omega) (by omega) hq2 (by omega) (by omega)
  have v0 := hp2.cell 0
  have v1 := hp2.cell 1
  have v2 := hp2.cell 2
  have v3 := hp2.cell 3
  have v4 := hp2.cell 4
  have v5 := hp2.cell 5
  unfold cV at v0 v1 v2 v3 v4 v5
  simp only [List.getElem?_cons_zero, List.getElem?_cons_succ] at v0 v1 v2 v3 v4 v5
  have HC := Lib.hid hcall
  have HP2 := Lib.hid hp2
  have HB2 := Lib.hid hb2
  have HW := Lib.hid (And.intro hw1 hw2)
  clear hcall hp1 hp2 hq2 hb2 h hw1 hw2 hU hz1
  unfold cV at HW
  unfold vV at HC ⊢
  go_enter Tryd.func33, Tryd.ntmps33
  go_upto_region 2 with (fail)
  rw [show (W.alloc (.cells #[.int .i64 T.k, .int .u64 T.u, .string T.s, .slice (A false) (T.n false) (c false), .int .i64 T.o, .slice (A true) (T.n true) (c true)] 25)).alloc (.cells #[.int .i64 2000] 3) = w2 by rw [HW.out.2, HW.out.1]]
  go_wp2_with (first
    | ((have HTX := HT)
       go_at_call 62
       go_must (
         (refine HC.out.mono ?_)
         rintro e w3 ⟨b, L3, rfl, hb3, hL3, hg3⟩
         have hp3 := HP2.out.grown hg3 (by intro e; injection e with e; omega)
         have hbw3 : Below W.heap.size W w3 := HB2.out.trans (belowV hg3 (fun j hj => by injection hj with hj; omega) (by omega))
         have y0 := hp3.cell 0
         have y1 := hp3.cell 1
         have y2 := hp3.cell 2
         have y3 := hp3.cell 3
         have y4 := hp3.cell 4
         have y5 := hp3.cell 5
         unfold cV at y0 y1 y2 y3 y4 y5
         simp only [List.getElem?_cons_zero, List.getElem?_cons_succ] at y0 y1 y2 y3 y4 y5
         have hw3 : W.heap.size ≤ w3.heap.size := hbw3.size
         have hcall2 := valueFits_calls B T w3 A c lv (TV.below (hbw3.mono hB) _ _ _ HT.out) (by omega) (HU.out.below (hbw3.mono hB)) hl0 hl1
         unfold vV at hcall2
         have HC2 := Lib.hid hcall2
         have HB3 := Lib.hid hbw3
         have HL3 := Lib.hid hL3
         clear hp3 hbw3 hcall2 hb3 hL3 hg3
         cases b))
    | ((have HTX := HB3)
       go_at_call 63
       go_must (
         (refine HC2.out.mono ?_)
         rintro e w4 ⟨b4, rfl, hf4, hb4⟩
         have HB4 := Lib.hid (HB3.out.trans (hb4.mono (by omega)))
         have HF4 := Lib.hid hf4
         clear hb4 hf4)))
  · go_ret
    exact ⟨false, rfl, (by intro h; cases h), HB3.out⟩
  · go_ret
    exact ⟨b4, rfl, fun h => ⟨HF4.out h, by have := HL3.out (by trivial); omega⟩, HB4.out⟩
end Go.Proofs.YtjjhckbidcdkcaaDoor
