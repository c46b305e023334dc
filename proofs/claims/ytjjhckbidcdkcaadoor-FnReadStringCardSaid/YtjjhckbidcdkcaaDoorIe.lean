/- spec.pieces at numbers and arrays, given numbered and array. PRINTED by wip/genie.py. -/
import Derived.Test.YtjjhckbidcdkcaaDoorId
namespace Go.Proofs.YtjjhckbidcdkcaaDoor
open Go.RowKit
set_option linter.unusedVariables false

/-- The contract of numbered at a value. -/
def NB (B : Nat) (T : VT) : Prop := ∀ (W : World) (A : Bool → Option Addr) (c : Bool → Nat), TV W B T A c → B ≤ W.heap.size →
  Calls Tryd.prog 90 #[vV T A c] W fun e W' => ∃ v, e = .returned v ∧ PcsW W' W.heap.size (numL T.k T.u) v ∧ Below W.heap.size W W'
/-- The contract of array at a value. -/
def AR (B gf : Nat) (sh : Bool) (T : VT) : Prop := ∀ (W : World) (st : Int) (A : Bool → Option Addr) (c : Bool → Nat), TV W B T A c → B ≤ W.heap.size → Blk W gf 77 [.int .u64 st, .bool sh] →
  Calls Tryd.prog 89 #[.pointer (some ⟨gf, 0, none⟩), vV T A c] W (ArPost gf sh (ofK T) (T.kid false) (T.n false) (140000 * cntK T - 18) W)
set_option maxHeartbeats 4000000 in
set_option maxRecDepth 100000 in
theorem pieces_k (B gf : Nat) (sh : Bool) (u o : Int) (s : ByteArray) (n : Bool → Nat) (f : Bool → Nat → VT) (hgf : B ≤ gf) (k : Int) (hk2 : 2 ≤ k) (hk16 : k ≤ 16) (hk14 : k ≠ 14) (hN : NB B (.mk k u s o n f)) : PC B gf sh (.mk k u s o n f) := by
  intro W st A c h hB hb
  obtain ⟨hwf, hk⟩ := h.open_
  have hu0 : 0 ≤ u := hwf.2.2.1
  have hu1 : u ≤ 18446744073709551615 := hwf.2.2.2.1
  have hcl := fun (w : World) (hbw : Below B W w) (hBw : B ≤ w.heap.size) => hN w A c (TV.below hbw _ _ _ h) hBw
  unfold vV at hcl
  simp only [VT.k, VT.u, VT.s, VT.o, VT.n] at hcl
  have HCL := Lib.hid hcl
  clear hcl
  have HT := Lib.hid h
  clear h hk hwf
  unfold vV
  simp only [VT.k, VT.u, VT.s, VT.o, VT.n]
  have HPG := Lib.hid (@Iff.rfl (PCPost gf sh (.mk k u s o n f) W = PCPost gf sh (.mk k u s o n f) W))
  clear HPG
  generalize A false = A0 at *
  generalize A true = A1 at *
  generalize c false = c0 at *
  generalize c true = c1 at *
  obtain ⟨n0, hn0⟩ : ∃ x, n false = x := ⟨_, rfl⟩
  obtain ⟨n1, hn1⟩ : ∃ x, n true = x := ⟨_, rfl⟩
  rw [hn0, hn1] at HCL ⊢
  obtain ⟨w1, hw1⟩ : ∃ w1, w1 = W.alloc (.cells #[.int .i64 k, .int .u64 u, .string s, .slice A0 n0 c0, .int .i64 o, .slice A1 n1 c1] 25) := ⟨_, rfl⟩
  have hp1 : Blk w1 W.heap.size 25 [.int .i64 k, .int .u64 u, .string s, .slice A0 n0 c0, .int .i64 o, .slice A1 n1 c1] := by rw [hw1]; exact Blk.new W 25 [.int .i64 k, .int .u64 u, .string s, .slice A0 n0 c0, .int .i64 o, .slice A1 n1 c1]
  have hb1 : Below W.heap.size W w1 := by rw [hw1]; exact (Below.refl _ W).alloc (Nat.le_refl _) _
  have hf1 : Blk w1 gf 77 [.int .u64 st, .bool sh] := by rw [hw1]; exact hb.alloc _
  have hz1 : w1.heap.size = W.heap.size + 1 := by rw [hw1]; simp
  have v0 := hp1.cell 0
  have v1 := hp1.cell 1
  have v2 := hp1.cell 2
  have v3 := hp1.cell 3
  simp only [List.getElem?_cons_zero, List.getElem?_cons_succ] at v0 v1 v2 v3
  have HW1 := Lib.hid hw1
  have HP1 := Lib.hid hp1
  have HB1 := Lib.hid hb1
  have HF1 := Lib.hid hf1
  have HN0 := Lib.hid hn0
  have HZ1 := Lib.hid hz1
  clear hw1 hp1 hb1 hf1 hb hn0 hn1 hz1
  have e0 : (k == 0) = false := by rw [beq_eq_false_iff_ne]; omega
  have e1 : (k == 1) = false := by rw [beq_eq_false_iff_ne]; omega
  have e14 : (k == 14) = false := by rw [beq_eq_false_iff_ne]; omega
  have e17 : (k == 17) = false := by rw [beq_eq_false_iff_ne]; omega
  have e18 : (k == 18) = false := by rw [beq_eq_false_iff_ne]; omega
  have e19 : (k == 19) = false := by rw [beq_eq_false_iff_ne]; omega
  have e20 : (k == 20) = false := by rw [beq_eq_false_iff_ne]; omega
  have e21 : (k == 21) = false := by rw [beq_eq_false_iff_ne]; omega
  have e22 : (k == 22) = false := by rw [beq_eq_false_iff_ne]; omega
  have e23 : (k == 23) = false := by rw [beq_eq_false_iff_ne]; omega
  have v4 := HP1.out.cell 4
  have v5 := HP1.out.cell 5
  simp only [List.getElem?_cons_zero, List.getElem?_cons_succ] at v4 v5
  have HK := Lib.hid (And.intro hk2 (And.intro hk16 hk14))
  clear hk2 hk16 hk14 hN
  have hcall := HCL.out w1 (HB1.out.mono hB) (by have := HZ1.out; omega)
  have HC := Lib.hid hcall
  clear hcall
  go_enter Tryd.func64, Tryd.ntmps64
  go_upto_region 1 with (fail)
  rw [← HW1.out]
  go_wp2_with (
    (go_at_call 90)
    go_must (
      (refine HC.out.mono ?_)
      rintro e w3 ⟨v9, rfl, hpw, hb3⟩
      have HPW := Lib.hid hpw
      have HB3 := Lib.hid hb3
      clear hpw hb3))
  go_ret
  obtain ⟨q1, q2, q3⟩ := numL_props k u HK.out.1 HK.out.2.1 HK.out.2.2
  refine ⟨v9, numL k u, st, rfl, ?_, HPW.out.lower HB1.out.size, HF1.out.below HB3.out HF1.out.lt, grown_of_below (HB1.out.trans (HB3.out.mono HB1.out.size)) _⟩
  refine ⟨q1, q2, fun p hp => ?_, ⟨fun _ _ _ => rfl, fun e => absurd HK.out.2.1 (by simp [VT.k] at e; omega), fun e => absurd HK.out.2.1 (by simp [VT.k] at e; omega), fun e => absurd HK.out.2.1 (by simp [VT.k] at e; omega)⟩, fun e => absurd HK.out.2.1 (by simp [VT.k] at e; omega)⟩
  obtain ⟨r1, r2, r3⟩ := q3 p hp
  have := cntK_pos (.mk k u s o n f)
  exact ⟨r1, r2, by omega⟩
set_option maxHeartbeats 4000000 in
set_option maxRecDepth 100000 in
theorem pieces_23 (B gf : Nat) (sh : Bool) (u o : Int) (s : ByteArray) (n : Bool → Nat) (f : Bool → Nat → VT) (hgf : B ≤ gf) (hA : AR B gf sh (.mk 23 u s o n f)) : PC B gf sh (.mk 23 u s o n f) := by
  intro W st A c h hB hb
  obtain ⟨hwf, hk⟩ := h.open_
  have hu0 : 0 ≤ u := hwf.2.2.1
  have hu1 : u ≤ 18446744073709551615 := hwf.2.2.2.1
  have hcl := fun (w : World) (hbw : Below B W w) (hBw : B ≤ w.heap.size) (hbl : Blk w gf 77 [.int .u64 st, .bool sh]) => hA w st A c (TV.below hbw _ _ _ h) hBw hbl
  unfold vV at hcl
  simp only [VT.k, VT.u, VT.s, VT.o, VT.n] at hcl
  have HCL := Lib.hid hcl
  clear hcl
  have HT := Lib.hid h
  clear h hk hwf
  unfold vV
  simp only [VT.k, VT.u, VT.s, VT.o, VT.n]
  have HPG := Lib.hid (@Iff.rfl (PCPost gf sh (.mk 23 u s o n f) W = PCPost gf sh (.mk 23 u s o n f) W))
  clear HPG
  generalize A false = A0 at *
  generalize A true = A1 at *
  generalize c false = c0 at *
  generalize c true = c1 at *
  obtain ⟨n0, hn0⟩ : ∃ x, n false = x := ⟨_, rfl⟩
  obtain ⟨n1, hn1⟩ : ∃ x, n true = x := ⟨_, rfl⟩
  have HIFF : Hid (∀ data : List Int, ((0 < n false ∧ 0 < (f false 0).n true ∧ ∃ r, data = 0 :: r) ∨ (¬ (0 < n false ∧ 0 < (f false 0).n true) ∧ ∃ code d, data = code :: d ∧ code ≠ 0 ∧ (code = sho (ofK (.mk 23 u s o n f)) ∨ code = cod (ofK (.mk 23 u s o n f))) ∧ ElemG (f false) (n false) code d)) → ArrG (.mk 23 u s o n f) (lenP 224 240 data (n false : Int))) := fun data h => ⟨data, rfl, h⟩
  rw [hn0] at HIFF
  rw [hn0, hn1] at HCL ⊢
  obtain ⟨w1, hw1⟩ : ∃ w1, w1 = W.alloc (.cells #[.int .i64 23, .int .u64 u, .string s, .slice A0 n0 c0, .int .i64 o, .slice A1 n1 c1] 25) := ⟨_, rfl⟩
  have hp1 : Blk w1 W.heap.size 25 [.int .i64 23, .int .u64 u, .string s, .slice A0 n0 c0, .int .i64 o, .slice A1 n1 c1] := by rw [hw1]; exact Blk.new W 25 [.int .i64 23, .int .u64 u, .string s, .slice A0 n0 c0, .int .i64 o, .slice A1 n1 c1]
  have hb1 : Below W.heap.size W w1 := by rw [hw1]; exact (Below.refl _ W).alloc (Nat.le_refl _) _
  have hf1 : Blk w1 gf 77 [.int .u64 st, .bool sh] := by rw [hw1]; exact hb.alloc _
  have hz1 : w1.heap.size = W.heap.size + 1 := by rw [hw1]; simp
  have v0 := hp1.cell 0
  have v1 := hp1.cell 1
  have v2 := hp1.cell 2
  have v3 := hp1.cell 3
  simp only [List.getElem?_cons_zero, List.getElem?_cons_succ] at v0 v1 v2 v3
  have HW1 := Lib.hid hw1
  have HP1 := Lib.hid hp1
  have HB1 := Lib.hid hb1
  have HF1 := Lib.hid hf1
  have HN0 := Lib.hid hn0
  have HZ1 := Lib.hid hz1
  clear hw1 hp1 hb1 hf1 hb hn0 hn1 hz1
  have v4 := HP1.out.cell 4
  have v5 := HP1.out.cell 5
  simp only [List.getElem?_cons_zero, List.getElem?_cons_succ] at v4 v5
  have hcall := HCL.out w1 (HB1.out.mono hB) (by have := HZ1.out; omega) HF1.out
  have HC := Lib.hid hcall
  clear hcall hA
  go_enter Tryd.func64, Tryd.ntmps64
  go_upto_region 1 with (fail)
  rw [← HW1.out]
  go_wp2_with (
    (go_at_call 89)
    go_must (
      (refine HC.out.mono ?_)
      rintro e w3 ⟨v9, data, st3, rfl, hdB, hdl, hdd, hpw, hb3, hg3⟩
      have HDB := Lib.hid (And.intro hdB (And.intro hdl hdd))
      have HPW := Lib.hid hpw
      have HB3 := Lib.hid hb3
      have HG3 := Lib.hid hg3
      clear hdB hdl hdd hpw hb3 hg3))
  go_ret
  obtain ⟨q1, q2, q3⟩ := lenP_props 224 240 data n0 HDB.out.1
  refine ⟨v9, lenP 224 240 data n0, st3, rfl, ?_, HPW.out.lower HB1.out.size, HB3.out, grownV_trans (grown_of_below HB1.out _) HG3.out⟩
  refine ⟨⟨_, q1, rfl⟩, by omega, fun p hp => ?_, pcsX_no (by simp [VT.k]) (by simp [VT.k]) (by simp [VT.k]) (by simp [VT.k]), fun _ => HIFF.out data HDB.out.2.2⟩
  obtain ⟨r1, r2, r3⟩ := q3 p hp
  have hl := HDB.out.2.1
  have hp1 := cntK_pos (.mk 23 u s o n f)
  refine ⟨?_, r2, by omega⟩
  rcases r1 with h | h <;> rw [h] <;> simp [codesK, codesL, VT.k]
end Go.Proofs.YtjjhckbidcdkcaaDoor
