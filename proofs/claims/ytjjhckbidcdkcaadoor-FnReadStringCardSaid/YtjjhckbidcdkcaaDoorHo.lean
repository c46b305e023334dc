/- spec.contentFits, a theorem a kind. PRINTED by wip/genho.py. -/
import Derived.BigQuiet
import Derived.StillTailTactics
import Derived.Test.YtjjhckbidcdkcaaDoorHn
import Derived.Test.YtjjhckbidcdkcaaDoorHj
import Derived.Test.YtjjhckbidcdkcaaDoorHL
namespace Go.Proofs.YtjjhckbidcdkcaaDoor
open Go.RowKit
set_option linter.unusedVariables false

/-- The tables of UTF-8 lie below B. -/
def UT (B : Nat) (W : World) : Prop := (Lib.Utf8Tabs (Tryd.vs_ren.g 3) (Tryd.vs_ren.g 4) W) ∧ Tryd.vs_ren.g 3 < B ∧ Tryd.vs_ren.g 4 < B
theorem UT.below {B : Nat} {W W' : World} (h : UT B W) (hb : Below B W W') : UT B W' := by
  obtain ⟨⟨h1, h2⟩, h3, h4⟩ := h
  refine ⟨⟨fun c hc => ?_, fun i hi => ⟨?_, ?_⟩⟩, h3, h4⟩
  · exact (hb.cell (p := ⟨_, c, none⟩) h3).trans (h1 c hc)
  · exact (hb.cell (p := ⟨_, 2 * i, none⟩) h4).trans (h2 i hi).1
  · exact (hb.cell (p := ⟨_, 2 * i + 1, none⟩) h4).trans (h2 i hi).2
/-- The number of a value is one of its kind, an array's values are of one kind. -/
def CFt (T : VT) : Prop := (T.k = 1 → T.u ≤ 1) ∧ (T.k = 2 → T.u < 256) ∧ (T.k = 3 → T.u < 65536) ∧ (T.k = 4 → T.u < 4294967296) ∧ (T.k = 10 → T.u < 4294967296) ∧ (T.k = 8 → T.u < 2147483648 ∨ 18446744071562067968 ≤ T.u) ∧ (T.k = 23 → AFt T)
theorem CFt.of {k u o : Int} {s : ByteArray} {n : Bool → Nat} {f : Bool → Nat → VT} (h1 : k = 1 → u ≤ 1) (h2 : k = 2 → u < 256) (h3 : k = 3 → u < 65536) (h4 : k = 4 → u < 4294967296) (h5 : k = 10 → u < 4294967296) (h6 : k = 8 → u < 2147483648 ∨ 18446744071562067968 ≤ u) (h7 : k = 23 → AFt (.mk k u s o n f)) : CFt (.mk k u s o n f) := ⟨h1, h2, h3, h4, h5, h6, h7⟩
theorem wrap_back (x u : Int) (e : IntKind.u64.wrap (IntKind.i64.wrap x / 4294967296) = u) : u < 2147483648 ∨ 18446744071562067968 ≤ u := by
  have hy : -9223372036854775808 ≤ IntKind.i64.wrap x ∧ IntKind.i64.wrap x ≤ 9223372036854775807 := by rw [IntKind.wrap_i64]; omega
  generalize IntKind.i64.wrap x = y at *
  rw [IntKind.wrap_u64] at e
  omega
/-- The contract. -/
def CFc (W : World) (k u o : Int) (s : ByteArray) (n : Bool → Nat) (f : Bool → Nat → VT) (A : Bool → Option Addr) (c : Bool → Nat) : Prop :=
  Calls Tryd.prog 86 #[vV (.mk k u s o n f) A c] W fun e W' => ∃ b : Bool, e = .returned (.bool b) ∧ (b = true → CFt (.mk k u s o n f)) ∧ Below W.heap.size W W'
set_option maxHeartbeats 4000000 in
set_option maxRecDepth 100000 in
theorem contentFits_0 (B : Nat) (W : World) (u o : Int) (s : ByteArray) (n : Bool → Nat) (f : Bool → Nat → VT) (A : Bool → Option Addr) (c : Bool → Nat) (h : TV W B (.mk 0 u s o n f) A c) (hB : B ≤ W.heap.size) (hU : UT B W) : CFc W 0 u o s n f A c := by
  obtain ⟨hwf, hk⟩ := h.open_
  obtain ⟨hnc0, hcm0, hk0⟩ := hk false
  simp only [VT.n] at hnc0
  have hu0 : 0 ≤ u := hwf.2.2.1
  have hu1 : u ≤ 18446744073709551615 := hwf.2.2.2.1
  have hss : s.size ≤ maxLen := hwf.2.2.2.2.2.2
  have hET : @CFt.of 0 u o s n f = @CFt.of 0 u o s n f := rfl
  have HCF := Lib.hid (@CFt.of 0 u o s n f)
  have HT := Lib.hid h
  obtain ⟨w1, hw1⟩ : ∃ w1, w1 = W.alloc (.cells #[.int .i64 0, .int .u64 u, .string s, .slice (A false) (n false) (c false), .int .i64 o, .slice (A true) (n true) (c true)] 25) := ⟨_, rfl⟩
  have hp1 : Blk w1 W.heap.size 25 [.int .i64 0, .int .u64 u, .string s, .slice (A false) (n false) (c false), .int .i64 o, .slice (A true) (n true) (c true)] := by rw [hw1]; exact Blk.new W 25 [_, _, _, _, _, _]
  have hb1 : Below W.heap.size W w1 := by rw [hw1]; exact (Below.refl _ W).alloc (Nat.le_refl _) _
  have hz1 : w1.heap.size = W.heap.size + 1 := by rw [hw1]; simp
  have hfs := fixedSize_calls w1 0 (by omega)
  rw [show fsz 0 = -1 by decide] at hfs
  have q0 := hp1.cell 0
  simp only [List.getElem?_cons_zero] at q0
  have hsm : s.size ≤ 9223372036854775807 := by simp only [maxLen] at hss; omega
  have hnm : n false ≤ 9223372036854775807 := by simp only [maxLen] at hcm0; omega
  have HFS := Lib.hid hfs
  have HW1 := Lib.hid hw1
  have HP1 := Lib.hid hp1
  have HB1 := Lib.hid hb1
  have HU := Lib.hid hU
  have HSS := Lib.hid hss
  clear hET hwf hk hk0 hw1 hp1 hb1 hfs hU hss h
  rw [HW1.out] at q0
  unfold CFc vV
  simp only [VT.k, VT.u, VT.s, VT.o, VT.n]
  go_enter Tryd.func86, Tryd.ntmps86
  go_wp2_with (first
    | ((have HX := HFS)
       go_at_call 95
       go_must (
         (rw [← HW1.out])
         refine HX.out.mono ?_
         rintro e w2 ⟨rfl, hb2⟩
         have hp2 := HP1.out.below hb2 HP1.out.lt
         have y0 := hp2.cell 0
         have y1 := hp2.cell 1
         have y2 := hp2.cell 2
         have y3 := hp2.cell 3
         have y4 := hp2.cell 4
         have y5 := hp2.cell 5
         simp only [List.getElem?_cons_zero, List.getElem?_cons_succ] at y0 y1 y2 y3 y4 y5
         have HBB := Lib.hid (HB1.out.trans (hb2.mono (by omega)))
         have HP2 := Lib.hid hp2
         have hz2 : W.heap.size + 1 ≤ w2.heap.size := by have := hb2.size; omega
         clear hb2 hp2 q0)))
  all_goals
    go_ret
    first
      | exact ⟨false, rfl, (by intro h; cases h), HBB.out⟩
      | exact ⟨true, rfl, fun _ => HCF.out (by omega) (by omega) (by omega) (by omega) (by omega) (by omega) (by omega), HBB.out⟩
      | exact ⟨_, rfl, fun _ => HCF.out (by omega) (by omega) (by omega) (by omega) (by omega) (by omega) (by omega), HBB.out⟩
      | exact .inl ⟨rfl, HBB.out⟩
      | exact .inr ⟨rfl, HCF.out (by omega) (by omega) (by omega) (by omega) (by omega) (by omega) (by omega), HBB.out⟩
set_option maxHeartbeats 4000000 in
set_option maxRecDepth 100000 in
theorem contentFits_1 (B : Nat) (W : World) (u o : Int) (s : ByteArray) (n : Bool → Nat) (f : Bool → Nat → VT) (A : Bool → Option Addr) (c : Bool → Nat) (h : TV W B (.mk 1 u s o n f) A c) (hB : B ≤ W.heap.size) (hU : UT B W) : CFc W 1 u o s n f A c := by
  obtain ⟨hwf, hk⟩ := h.open_
  obtain ⟨hnc0, hcm0, hk0⟩ := hk false
  simp only [VT.n] at hnc0
  have hu0 : 0 ≤ u := hwf.2.2.1
  have hu1 : u ≤ 18446744073709551615 := hwf.2.2.2.1
  have hss : s.size ≤ maxLen := hwf.2.2.2.2.2.2
  have hET : @CFt.of 1 u o s n f = @CFt.of 1 u o s n f := rfl
  have HCF := Lib.hid (@CFt.of 1 u o s n f)
  have HT := Lib.hid h
  obtain ⟨w1, hw1⟩ : ∃ w1, w1 = W.alloc (.cells #[.int .i64 1, .int .u64 u, .string s, .slice (A false) (n false) (c false), .int .i64 o, .slice (A true) (n true) (c true)] 25) := ⟨_, rfl⟩
  have hp1 : Blk w1 W.heap.size 25 [.int .i64 1, .int .u64 u, .string s, .slice (A false) (n false) (c false), .int .i64 o, .slice (A true) (n true) (c true)] := by rw [hw1]; exact Blk.new W 25 [_, _, _, _, _, _]
  have hb1 : Below W.heap.size W w1 := by rw [hw1]; exact (Below.refl _ W).alloc (Nat.le_refl _) _
  have hz1 : w1.heap.size = W.heap.size + 1 := by rw [hw1]; simp
  have hfs := fixedSize_calls w1 1 (by omega)
  rw [show fsz 1 = -1 by decide] at hfs
  have q0 := hp1.cell 0
  simp only [List.getElem?_cons_zero] at q0
  have hsm : s.size ≤ 9223372036854775807 := by simp only [maxLen] at hss; omega
  have hnm : n false ≤ 9223372036854775807 := by simp only [maxLen] at hcm0; omega
  have HFS := Lib.hid hfs
  have HW1 := Lib.hid hw1
  have HP1 := Lib.hid hp1
  have HB1 := Lib.hid hb1
  have HU := Lib.hid hU
  have HSS := Lib.hid hss
  clear hET hwf hk hk0 hw1 hp1 hb1 hfs hU hss h
  rw [HW1.out] at q0
  unfold CFc vV
  simp only [VT.k, VT.u, VT.s, VT.o, VT.n]
  by_cases hu2 : u ≤ 1
  case neg =>
    have hub : decide (u ≤ 1) = false := decide_eq_false hu2
    go_enter Tryd.func86, Tryd.ntmps86
    go_wp2_with (first
      | ((have HX := HFS)
         go_at_call 95
         go_must (
           (rw [← HW1.out])
           refine HX.out.mono ?_
           rintro e w2 ⟨rfl, hb2⟩
           have hp2 := HP1.out.below hb2 HP1.out.lt
           have y0 := hp2.cell 0
           have y1 := hp2.cell 1
           have y2 := hp2.cell 2
           have y3 := hp2.cell 3
           have y4 := hp2.cell 4
           have y5 := hp2.cell 5
           simp only [List.getElem?_cons_zero, List.getElem?_cons_succ] at y0 y1 y2 y3 y4 y5
           have HBB := Lib.hid (HB1.out.trans (hb2.mono (by omega)))
           have HP2 := Lib.hid hp2
           have hz2 : W.heap.size + 1 ≤ w2.heap.size := by have := hb2.size; omega
           clear hb2 hp2 q0)))
    all_goals
      go_ret
      first
        | exact ⟨false, rfl, (by intro h; cases h), HBB.out⟩
        | exact ⟨true, rfl, fun _ => HCF.out (by omega) (by omega) (by omega) (by omega) (by omega) (by omega) (by omega), HBB.out⟩
        | exact ⟨_, rfl, fun _ => HCF.out (by omega) (by omega) (by omega) (by omega) (by omega) (by omega) (by omega), HBB.out⟩
        | exact .inl ⟨rfl, HBB.out⟩
        | exact .inr ⟨rfl, HCF.out (by omega) (by omega) (by omega) (by omega) (by omega) (by omega) (by omega), HBB.out⟩
  have hub : decide (u ≤ 1) = true := decide_eq_true hu2
  go_enter Tryd.func86, Tryd.ntmps86
  go_wp2_with (first
    | ((have HX := HFS)
       go_at_call 95
       go_must (
         (rw [← HW1.out])
         refine HX.out.mono ?_
         rintro e w2 ⟨rfl, hb2⟩
         have hp2 := HP1.out.below hb2 HP1.out.lt
         have y0 := hp2.cell 0
         have y1 := hp2.cell 1
         have y2 := hp2.cell 2
         have y3 := hp2.cell 3
         have y4 := hp2.cell 4
         have y5 := hp2.cell 5
         simp only [List.getElem?_cons_zero, List.getElem?_cons_succ] at y0 y1 y2 y3 y4 y5
         have HBB := Lib.hid (HB1.out.trans (hb2.mono (by omega)))
         have HP2 := Lib.hid hp2
         have hz2 : W.heap.size + 1 ≤ w2.heap.size := by have := hb2.size; omega
         clear hb2 hp2 q0)))
  all_goals
    go_ret
    first
      | exact ⟨false, rfl, (by intro h; cases h), HBB.out⟩
      | exact ⟨true, rfl, fun _ => HCF.out (by omega) (by omega) (by omega) (by omega) (by omega) (by omega) (by omega), HBB.out⟩
      | exact ⟨_, rfl, fun _ => HCF.out (by omega) (by omega) (by omega) (by omega) (by omega) (by omega) (by omega), HBB.out⟩
      | exact .inl ⟨rfl, HBB.out⟩
      | exact .inr ⟨rfl, HCF.out (by omega) (by omega) (by omega) (by omega) (by omega) (by omega) (by omega), HBB.out⟩
set_option maxHeartbeats 4000000 in
set_option maxRecDepth 100000 in
theorem contentFits_2 (B : Nat) (W : World) (u o : Int) (s : ByteArray) (n : Bool → Nat) (f : Bool → Nat → VT) (A : Bool → Option Addr) (c : Bool → Nat) (h : TV W B (.mk 2 u s o n f) A c) (hB : B ≤ W.heap.size) (hU : UT B W) : CFc W 2 u o s n f A c := by
  obtain ⟨hwf, hk⟩ := h.open_
  obtain ⟨hnc0, hcm0, hk0⟩ := hk false
  simp only [VT.n] at hnc0
  have hu0 : 0 ≤ u := hwf.2.2.1
  have hu1 : u ≤ 18446744073709551615 := hwf.2.2.2.1
  have hss : s.size ≤ maxLen := hwf.2.2.2.2.2.2
  have hET : @CFt.of 2 u o s n f = @CFt.of 2 u o s n f := rfl
  have HCF := Lib.hid (@CFt.of 2 u o s n f)
  have HT := Lib.hid h
  obtain ⟨w1, hw1⟩ : ∃ w1, w1 = W.alloc (.cells #[.int .i64 2, .int .u64 u, .string s, .slice (A false) (n false) (c false), .int .i64 o, .slice (A true) (n true) (c true)] 25) := ⟨_, rfl⟩
  have hp1 : Blk w1 W.heap.size 25 [.int .i64 2, .int .u64 u, .string s, .slice (A false) (n false) (c false), .int .i64 o, .slice (A true) (n true) (c true)] := by rw [hw1]; exact Blk.new W 25 [_, _, _, _, _, _]
  have hb1 : Below W.heap.size W w1 := by rw [hw1]; exact (Below.refl _ W).alloc (Nat.le_refl _) _
  have hz1 : w1.heap.size = W.heap.size + 1 := by rw [hw1]; simp
  have hfs := fixedSize_calls w1 2 (by omega)
  rw [show fsz 2 = 1 by decide] at hfs
  have q0 := hp1.cell 0
  simp only [List.getElem?_cons_zero] at q0
  have hsm : s.size ≤ 9223372036854775807 := by simp only [maxLen] at hss; omega
  have hnm : n false ≤ 9223372036854775807 := by simp only [maxLen] at hcm0; omega
  have HFS := Lib.hid hfs
  have HW1 := Lib.hid hw1
  have HP1 := Lib.hid hp1
  have HB1 := Lib.hid hb1
  have HU := Lib.hid hU
  have HSS := Lib.hid hss
  clear hET hwf hk hk0 hw1 hp1 hb1 hfs hU hss h
  rw [HW1.out] at q0
  unfold CFc vV
  simp only [VT.k, VT.u, VT.s, VT.o, VT.n]
  have hbd : IntKind.u64.wrap (u * 72057594037927936) / 72057594037927936 = u → u < 256 := fun e => by rw [IntKind.wrap_u64] at e; omega
  by_cases hx : IntKind.u64.wrap (u * 72057594037927936) / 72057594037927936 = u
  case neg =>
    have hxb : (IntKind.u64.wrap (u * 72057594037927936) / 72057594037927936 != u) = true := by rw [bne_iff_ne]; exact hx
    clear hx hbd
    go_enter Tryd.func86, Tryd.ntmps86
    go_wp2_with (first
      | ((have HX := HFS)
         go_at_call 95
         go_must (
           (rw [← HW1.out])
           refine HX.out.mono ?_
           rintro e w2 ⟨rfl, hb2⟩
           have hp2 := HP1.out.below hb2 HP1.out.lt
           have y0 := hp2.cell 0
           have y1 := hp2.cell 1
           have y2 := hp2.cell 2
           have y3 := hp2.cell 3
           have y4 := hp2.cell 4
           have y5 := hp2.cell 5
           simp only [List.getElem?_cons_zero, List.getElem?_cons_succ] at y0 y1 y2 y3 y4 y5
           have HBB := Lib.hid (HB1.out.trans (hb2.mono (by omega)))
           have HP2 := Lib.hid hp2
           have hz2 : W.heap.size + 1 ≤ w2.heap.size := by have := hb2.size; omega
           clear hb2 hp2 q0)))
    go_quiet (fail)
    go_wp2
    go_ret
    exact ⟨false, rfl, (by intro h; cases h), below_drewN HBB.out _⟩
  have hub := hbd hx
  have hxb : (IntKind.u64.wrap (u * 72057594037927936) / 72057594037927936 != u) = false := by rw [hx]; simp
  clear hx hbd
  go_enter Tryd.func86, Tryd.ntmps86
  go_wp2_with (first
    | ((have HX := HFS)
       go_at_call 95
       go_must (
         (rw [← HW1.out])
         refine HX.out.mono ?_
         rintro e w2 ⟨rfl, hb2⟩
         have hp2 := HP1.out.below hb2 HP1.out.lt
         have y0 := hp2.cell 0
         have y1 := hp2.cell 1
         have y2 := hp2.cell 2
         have y3 := hp2.cell 3
         have y4 := hp2.cell 4
         have y5 := hp2.cell 5
         simp only [List.getElem?_cons_zero, List.getElem?_cons_succ] at y0 y1 y2 y3 y4 y5
         have HBB := Lib.hid (HB1.out.trans (hb2.mono (by omega)))
         have HP2 := Lib.hid hp2
         have hz2 : W.heap.size + 1 ≤ w2.heap.size := by have := hb2.size; omega
         clear hb2 hp2 q0)))
  go_quiet (fail)
  go_wp2
  all_goals
    go_ret
    first
      | exact ⟨false, rfl, (by intro h; cases h), below_drewN HBB.out _⟩
      | exact ⟨true, rfl, fun _ => HCF.out (by omega) (by omega) (by omega) (by omega) (by omega) (by omega) (by omega), below_drewN HBB.out _⟩
      | exact ⟨_, rfl, fun _ => HCF.out (by omega) (by omega) (by omega) (by omega) (by omega) (by omega) (by omega), below_drewN HBB.out _⟩
      | exact .inl ⟨rfl, below_drewN HBB.out _⟩
      | exact .inr ⟨rfl, HCF.out (by omega) (by omega) (by omega) (by omega) (by omega) (by omega) (by omega), below_drewN HBB.out _⟩
set_option maxHeartbeats 4000000 in
set_option maxRecDepth 100000 in
theorem contentFits_3 (B : Nat) (W : World) (u o : Int) (s : ByteArray) (n : Bool → Nat) (f : Bool → Nat → VT) (A : Bool → Option Addr) (c : Bool → Nat) (h : TV W B (.mk 3 u s o n f) A c) (hB : B ≤ W.heap.size) (hU : UT B W) : CFc W 3 u o s n f A c := by
  obtain ⟨hwf, hk⟩ := h.open_
  obtain ⟨hnc0, hcm0, hk0⟩ := hk false
  simp only [VT.n] at hnc0
  have hu0 : 0 ≤ u := hwf.2.2.1
  have hu1 : u ≤ 18446744073709551615 := hwf.2.2.2.1
  have hss : s.size ≤ maxLen := hwf.2.2.2.2.2.2
  have hET : @CFt.of 3 u o s n f = @CFt.of 3 u o s n f := rfl
  have HCF := Lib.hid (@CFt.of 3 u o s n f)
  have HT := Lib.hid h
  obtain ⟨w1, hw1⟩ : ∃ w1, w1 = W.alloc (.cells #[.int .i64 3, .int .u64 u, .string s, .slice (A false) (n false) (c false), .int .i64 o, .slice (A true) (n true) (c true)] 25) := ⟨_, rfl⟩
  have hp1 : Blk w1 W.heap.size 25 [.int .i64 3, .int .u64 u, .string s, .slice (A false) (n false) (c false), .int .i64 o, .slice (A true) (n true) (c true)] := by rw [hw1]; exact Blk.new W 25 [_, _, _, _, _, _]
  have hb1 : Below W.heap.size W w1 := by rw [hw1]; exact (Below.refl _ W).alloc (Nat.le_refl _) _
  have hz1 : w1.heap.size = W.heap.size + 1 := by rw [hw1]; simp
  have hfs := fixedSize_calls w1 3 (by omega)
  rw [show fsz 3 = 2 by decide] at hfs
  have q0 := hp1.cell 0
  simp only [List.getElem?_cons_zero] at q0
  have hsm : s.size ≤ 9223372036854775807 := by simp only [maxLen] at hss; omega
  have hnm : n false ≤ 9223372036854775807 := by simp only [maxLen] at hcm0; omega
  have HFS := Lib.hid hfs
  have HW1 := Lib.hid hw1
  have HP1 := Lib.hid hp1
  have HB1 := Lib.hid hb1
  have HU := Lib.hid hU
  have HSS := Lib.hid hss
  clear hET hwf hk hk0 hw1 hp1 hb1 hfs hU hss h
  rw [HW1.out] at q0
  unfold CFc vV
  simp only [VT.k, VT.u, VT.s, VT.o, VT.n]
  have hbd : IntKind.u64.wrap (u * 281474976710656) / 281474976710656 = u → u < 65536 := fun e => by rw [IntKind.wrap_u64] at e; omega
  by_cases hx : IntKind.u64.wrap (u * 281474976710656) / 281474976710656 = u
  case neg =>
    have hxb : (IntKind.u64.wrap (u * 281474976710656) / 281474976710656 != u) = true := by rw [bne_iff_ne]; exact hx
    clear hx hbd
    go_enter Tryd.func86, Tryd.ntmps86
    go_wp2_with (first
      | ((have HX := HFS)
         go_at_call 95
         go_must (
           (rw [← HW1.out])
           refine HX.out.mono ?_
           rintro e w2 ⟨rfl, hb2⟩
           have hp2 := HP1.out.below hb2 HP1.out.lt
           have y0 := hp2.cell 0
           have y1 := hp2.cell 1
           have y2 := hp2.cell 2
           have y3 := hp2.cell 3
           have y4 := hp2.cell 4
           have y5 := hp2.cell 5
           simp only [List.getElem?_cons_zero, List.getElem?_cons_succ] at y0 y1 y2 y3 y4 y5
           have HBB := Lib.hid (HB1.out.trans (hb2.mono (by omega)))
           have HP2 := Lib.hid hp2
           have hz2 : W.heap.size + 1 ≤ w2.heap.size := by have := hb2.size; omega
           clear hb2 hp2 q0)))
    go_quiet (fail)
    go_wp2
    go_ret
    exact ⟨false, rfl, (by intro h; cases h), below_drewN HBB.out _⟩
  have hub := hbd hx
  have hxb : (IntKind.u64.wrap (u * 281474976710656) / 281474976710656 != u) = false := by rw [hx]; simp
  clear hx hbd
  go_enter Tryd.func86, Tryd.ntmps86
  go_wp2_with (first
    | ((have HX := HFS)
       go_at_call 95
       go_must (
         (rw [← HW1.out])
         refine HX.out.mono ?_
         rintro e w2 ⟨rfl, hb2⟩
         have hp2 := HP1.out.below hb2 HP1.out.lt
         have y0 := hp2.cell 0
         have y1 := hp2.cell 1
         have y2 := hp2.cell 2
         have y3 := hp2.cell 3
         have y4 := hp2.cell 4
         have y5 := hp2.cell 5
         simp only [List.getElem?_cons_zero, List.getElem?_cons_succ] at y0 y1 y2 y3 y4 y5
         have HBB := Lib.hid (HB1.out.trans (hb2.mono (by omega)))
         have HP2 := Lib.hid hp2
         have hz2 : W.heap.size + 1 ≤ w2.heap.size := by have := hb2.size; omega
         clear hb2 hp2 q0)))
  go_quiet (fail)
  go_wp2
  all_goals
    go_ret
    first
      | exact ⟨false, rfl, (by intro h; cases h), below_drewN HBB.out _⟩
      | exact ⟨true, rfl, fun _ => HCF.out (by omega) (by omega) (by omega) (by omega) (by omega) (by omega) (by omega), below_drewN HBB.out _⟩
      | exact ⟨_, rfl, fun _ => HCF.out (by omega) (by omega) (by omega) (by omega) (by omega) (by omega) (by omega), below_drewN HBB.out _⟩
      | exact .inl ⟨rfl, below_drewN HBB.out _⟩
      | exact .inr ⟨rfl, HCF.out (by omega) (by omega) (by omega) (by omega) (by omega) (by omega) (by omega), below_drewN HBB.out _⟩
set_option maxHeartbeats 4000000 in
set_option maxRecDepth 100000 in
theorem contentFits_4 (B : Nat) (W : World) (u o : Int) (s : ByteArray) (n : Bool → Nat) (f : Bool → Nat → VT) (A : Bool → Option Addr) (c : Bool → Nat) (h : TV W B (.mk 4 u s o n f) A c) (hB : B ≤ W.heap.size) (hU : UT B W) : CFc W 4 u o s n f A c := by
  obtain ⟨hwf, hk⟩ := h.open_
  obtain ⟨hnc0, hcm0, hk0⟩ := hk false
  simp only [VT.n] at hnc0
  have hu0 : 0 ≤ u := hwf.2.2.1
  have hu1 : u ≤ 18446744073709551615 := hwf.2.2.2.1
  have hss : s.size ≤ maxLen := hwf.2.2.2.2.2.2
  have hET : @CFt.of 4 u o s n f = @CFt.of 4 u o s n f := rfl
  have HCF := Lib.hid (@CFt.of 4 u o s n f)
  have HT := Lib.hid h
  obtain ⟨w1, hw1⟩ : ∃ w1, w1 = W.alloc (.cells #[.int .i64 4, .int .u64 u, .string s, .slice (A false) (n false) (c false), .int .i64 o, .slice (A true) (n true) (c true)] 25) := ⟨_, rfl⟩
  have hp1 : Blk w1 W.heap.size 25 [.int .i64 4, .int .u64 u, .string s, .slice (A false) (n false) (c false), .int .i64 o, .slice (A true) (n true) (c true)] := by rw [hw1]; exact Blk.new W 25 [_, _, _, _, _, _]
  have hb1 : Below W.heap.size W w1 := by rw [hw1]; exact (Below.refl _ W).alloc (Nat.le_refl _) _
  have hz1 : w1.heap.size = W.heap.size + 1 := by rw [hw1]; simp
  have hfs := fixedSize_calls w1 4 (by omega)
  rw [show fsz 4 = 4 by decide] at hfs
  have q0 := hp1.cell 0
  simp only [List.getElem?_cons_zero] at q0
  have hsm : s.size ≤ 9223372036854775807 := by simp only [maxLen] at hss; omega
  have hnm : n false ≤ 9223372036854775807 := by simp only [maxLen] at hcm0; omega
  have HFS := Lib.hid hfs
  have HW1 := Lib.hid hw1
  have HP1 := Lib.hid hp1
  have HB1 := Lib.hid hb1
  have HU := Lib.hid hU
  have HSS := Lib.hid hss
  clear hET hwf hk hk0 hw1 hp1 hb1 hfs hU hss h
  rw [HW1.out] at q0
  unfold CFc vV
  simp only [VT.k, VT.u, VT.s, VT.o, VT.n]
  have hbd : IntKind.u64.wrap (u * 4294967296) / 4294967296 = u → u < 4294967296 := fun e => by rw [IntKind.wrap_u64] at e; omega
  by_cases hx : IntKind.u64.wrap (u * 4294967296) / 4294967296 = u
  case neg =>
    have hxb : (IntKind.u64.wrap (u * 4294967296) / 4294967296 != u) = true := by rw [bne_iff_ne]; exact hx
    clear hx hbd
    go_enter Tryd.func86, Tryd.ntmps86
    go_wp2_with (first
      | ((have HX := HFS)
         go_at_call 95
         go_must (
           (rw [← HW1.out])
           refine HX.out.mono ?_
           rintro e w2 ⟨rfl, hb2⟩
           have hp2 := HP1.out.below hb2 HP1.out.lt
           have y0 := hp2.cell 0
           have y1 := hp2.cell 1
           have y2 := hp2.cell 2
           have y3 := hp2.cell 3
           have y4 := hp2.cell 4
           have y5 := hp2.cell 5
           simp only [List.getElem?_cons_zero, List.getElem?_cons_succ] at y0 y1 y2 y3 y4 y5
           have HBB := Lib.hid (HB1.out.trans (hb2.mono (by omega)))
           have HP2 := Lib.hid hp2
           have hz2 : W.heap.size + 1 ≤ w2.heap.size := by have := hb2.size; omega
           clear hb2 hp2 q0)))
    go_quiet (fail)
    go_wp2
    go_ret
    exact ⟨false, rfl, (by intro h; cases h), below_drewN HBB.out _⟩
  have hub := hbd hx
  have hxb : (IntKind.u64.wrap (u * 4294967296) / 4294967296 != u) = false := by rw [hx]; simp
  clear hx hbd
  go_enter Tryd.func86, Tryd.ntmps86
  go_wp2_with (first
    | ((have HX := HFS)
       go_at_call 95
       go_must (
         (rw [← HW1.out])
         refine HX.out.mono ?_
         rintro e w2 ⟨rfl, hb2⟩
         have hp2 := HP1.out.below hb2 HP1.out.lt
         have y0 := hp2.cell 0
         have y1 := hp2.cell 1
         have y2 := hp2.cell 2
         have y3 := hp2.cell 3
         have y4 := hp2.cell 4
         have y5 := hp2.cell 5
         simp only [List.getElem?_cons_zero, List.getElem?_cons_succ] at y0 y1 y2 y3 y4 y5
         have HBB := Lib.hid (HB1.out.trans (hb2.mono (by omega)))
         have HP2 := Lib.hid hp2
         have hz2 : W.heap.size + 1 ≤ w2.heap.size := by have := hb2.size; omega
         clear hb2 hp2 q0)))
  go_quiet (fail)
  go_wp2
  all_goals
    go_ret
    first
      | exact ⟨false, rfl, (by intro h; cases h), below_drewN HBB.out _⟩
      | exact ⟨true, rfl, fun _ => HCF.out (by omega) (by omega) (by omega) (by omega) (by omega) (by omega) (by omega), below_drewN HBB.out _⟩
      | exact ⟨_, rfl, fun _ => HCF.out (by omega) (by omega) (by omega) (by omega) (by omega) (by omega) (by omega), below_drewN HBB.out _⟩
      | exact .inl ⟨rfl, below_drewN HBB.out _⟩
      | exact .inr ⟨rfl, HCF.out (by omega) (by omega) (by omega) (by omega) (by omega) (by omega) (by omega), below_drewN HBB.out _⟩
set_option maxHeartbeats 4000000 in
set_option maxRecDepth 100000 in
theorem contentFits_5 (B : Nat) (W : World) (u o : Int) (s : ByteArray) (n : Bool → Nat) (f : Bool → Nat → VT) (A : Bool → Option Addr) (c : Bool → Nat) (h : TV W B (.mk 5 u s o n f) A c) (hB : B ≤ W.heap.size) (hU : UT B W) : CFc W 5 u o s n f A c := by
  obtain ⟨hwf, hk⟩ := h.open_
  obtain ⟨hnc0, hcm0, hk0⟩ := hk false
  simp only [VT.n] at hnc0
  have hu0 : 0 ≤ u := hwf.2.2.1
  have hu1 : u ≤ 18446744073709551615 := hwf.2.2.2.1
  have hss : s.size ≤ maxLen := hwf.2.2.2.2.2.2
  have hET : @CFt.of 5 u o s n f = @CFt.of 5 u o s n f := rfl
  have HCF := Lib.hid (@CFt.of 5 u o s n f)
  have HT := Lib.hid h
  obtain ⟨w1, hw1⟩ : ∃ w1, w1 = W.alloc (.cells #[.int .i64 5, .int .u64 u, .string s, .slice (A false) (n false) (c false), .int .i64 o, .slice (A true) (n true) (c true)] 25) := ⟨_, rfl⟩
  have hp1 : Blk w1 W.heap.size 25 [.int .i64 5, .int .u64 u, .string s, .slice (A false) (n false) (c false), .int .i64 o, .slice (A true) (n true) (c true)] := by rw [hw1]; exact Blk.new W 25 [_, _, _, _, _, _]
  have hb1 : Below W.heap.size W w1 := by rw [hw1]; exact (Below.refl _ W).alloc (Nat.le_refl _) _
  have hz1 : w1.heap.size = W.heap.size + 1 := by rw [hw1]; simp
  have hfs := fixedSize_calls w1 5 (by omega)
  rw [show fsz 5 = 8 by decide] at hfs
  have q0 := hp1.cell 0
  simp only [List.getElem?_cons_zero] at q0
  have hsm : s.size ≤ 9223372036854775807 := by simp only [maxLen] at hss; omega
  have hnm : n false ≤ 9223372036854775807 := by simp only [maxLen] at hcm0; omega
  have HFS := Lib.hid hfs
  have HW1 := Lib.hid hw1
  have HP1 := Lib.hid hp1
  have HB1 := Lib.hid hb1
  have HU := Lib.hid hU
  have HSS := Lib.hid hss
  clear hET hwf hk hk0 hw1 hp1 hb1 hfs hU hss h
  rw [HW1.out] at q0
  unfold CFc vV
  simp only [VT.k, VT.u, VT.s, VT.o, VT.n]
  go_enter Tryd.func86, Tryd.ntmps86
  go_wp2_with (first
    | ((have HX := HFS)
       go_at_call 95
       go_must (
         (rw [← HW1.out])
         refine HX.out.mono ?_
         rintro e w2 ⟨rfl, hb2⟩
         have hp2 := HP1.out.below hb2 HP1.out.lt
         have y0 := hp2.cell 0
         have y1 := hp2.cell 1
         have y2 := hp2.cell 2
         have y3 := hp2.cell 3
         have y4 := hp2.cell 4
         have y5 := hp2.cell 5
         simp only [List.getElem?_cons_zero, List.getElem?_cons_succ] at y0 y1 y2 y3 y4 y5
         have HBB := Lib.hid (HB1.out.trans (hb2.mono (by omega)))
         have HP2 := Lib.hid hp2
         have hz2 : W.heap.size + 1 ≤ w2.heap.size := by have := hb2.size; omega
         clear hb2 hp2 q0)))
  go_quiet (fail)
  go_wp2
  all_goals
    go_ret
    first
      | exact ⟨false, rfl, (by intro h; cases h), below_drewN HBB.out _⟩
      | exact ⟨true, rfl, fun _ => HCF.out (by omega) (by omega) (by omega) (by omega) (by omega) (by omega) (by omega), below_drewN HBB.out _⟩
      | exact ⟨_, rfl, fun _ => HCF.out (by omega) (by omega) (by omega) (by omega) (by omega) (by omega) (by omega), below_drewN HBB.out _⟩
      | exact .inl ⟨rfl, below_drewN HBB.out _⟩
      | exact .inr ⟨rfl, HCF.out (by omega) (by omega) (by omega) (by omega) (by omega) (by omega) (by omega), below_drewN HBB.out _⟩
set_option maxHeartbeats 4000000 in
set_option maxRecDepth 3000 in
theorem contentFits_6 (B : Nat) (W : World) (u o : Int) (s : ByteArray) (n : Bool → Nat) (f : Bool → Nat → VT) (A : Bool → Option Addr) (c : Bool → Nat) (h : TV W B (.mk 6 u s o n f) A c) (hB : B ≤ W.heap.size) (hU : UT B W) : CFc W 6 u o s n f A c := by
  obtain ⟨hwf, hk⟩ := h.open_
  obtain ⟨hnc0, hcm0, hk0⟩ := hk false
  simp only [VT.n] at hnc0
  have hu0 : 0 ≤ u := hwf.2.2.1
  have hu1 : u ≤ 18446744073709551615 := hwf.2.2.2.1
  have hss : s.size ≤ maxLen := hwf.2.2.2.2.2.2
  have hET : @CFt.of 6 u o s n f = @CFt.of 6 u o s n f := rfl
  have HCF := Lib.hid (@CFt.of 6 u o s n f)
  have HT := Lib.hid h
  obtain ⟨w1, hw1⟩ : ∃ w1, w1 = W.alloc (.cells #[.int .i64 6, .int .u64 u, .string s, .slice (A false) (n false) (c false), .int .i64 o, .slice (A true) (n true) (c true)] 25) := ⟨_, rfl⟩
  have hp1 : Blk w1 W.heap.size 25 [.int .i64 6, .int .u64 u, .string s, .slice (A false) (n false) (c false), .int .i64 o, .slice (A true) (n true) (c true)] := by rw [hw1]; exact Blk.new W 25 [_, _, _, _, _, _]
  have hb1 : Below W.heap.size W w1 := by rw [hw1]; exact (Below.refl _ W).alloc (Nat.le_refl _) _
  have hz1 : w1.heap.size = W.heap.size + 1 := by rw [hw1]; simp
  have hfs := fixedSize_calls w1 6 (by omega)
  rw [show fsz 6 = 1 by decide] at hfs
  have q0 := hp1.cell 0
  simp only [List.getElem?_cons_zero] at q0
  have hsm : s.size ≤ 9223372036854775807 := by simp only [maxLen] at hss; omega
  have hnm : n false ≤ 9223372036854775807 := by simp only [maxLen] at hcm0; omega
  have HFS := Lib.hid hfs
  have HW1 := Lib.hid hw1
  have HP1 := Lib.hid hp1
  have HB1 := Lib.hid hb1
  have HU := Lib.hid hU
  have HSS := Lib.hid hss
  clear hET hwf hk hk0 hw1 hp1 hb1 hfs hU hss h
  rw [HW1.out] at q0
  unfold CFc vV
  simp only [VT.k, VT.u, VT.s, VT.o, VT.n]
  have hbd : IntKind.u64.wrap (IntKind.i64.wrap (IntKind.u64.wrap (u * 72057594037927936)) / 72057594037927936) = u → True := fun _ => trivial
  obtain ⟨V1, hV1⟩ : ∃ V, IntKind.u64.wrap (u * 72057594037927936) = V := ⟨_, rfl⟩
  rw [hV1] at hbd
  obtain ⟨V2, hV2⟩ : ∃ V, IntKind.i64.wrap V1 = V := ⟨_, rfl⟩
  rw [hV2] at hbd
  obtain ⟨V3, hV3⟩ : ∃ V, V2 / 72057594037927936 = V := ⟨_, rfl⟩
  rw [hV3] at hbd
  obtain ⟨Y, hY⟩ : ∃ V, IntKind.u64.wrap V3 = V := ⟨_, rfl⟩
  rw [hY] at hbd
  by_cases hx : Y = u
  case neg =>
    have hxb : (Y != u) = true := by rw [bne_iff_ne]; exact hx
    clear hx hbd
    go_enter Tryd.func86, Tryd.ntmps86
    go_wp2_with (first
      | ((have HX := HFS)
         go_at_call 95
         go_must (
           (rw [← HW1.out])
           refine HX.out.mono ?_
           rintro e w2 ⟨rfl, hb2⟩
           have hp2 := HP1.out.below hb2 HP1.out.lt
           have y0 := hp2.cell 0
           have y1 := hp2.cell 1
           have y2 := hp2.cell 2
           have y3 := hp2.cell 3
           have y4 := hp2.cell 4
           have y5 := hp2.cell 5
           simp only [List.getElem?_cons_zero, List.getElem?_cons_succ] at y0 y1 y2 y3 y4 y5
           have HBB := Lib.hid (HB1.out.trans (hb2.mono (by omega)))
           have HP2 := Lib.hid hp2
           have hz2 : W.heap.size + 1 ≤ w2.heap.size := by have := hb2.size; omega
           clear hb2 hp2 q0)))
    go_quiet (fail)
    go_wp2
    go_ret
    exact ⟨false, rfl, (by intro h; cases h), below_drewN HBB.out _⟩
  have hub := hbd hx
  have hxb : (Y != u) = false := by rw [hx]; simp
  clear hx hbd
  go_enter Tryd.func86, Tryd.ntmps86
  go_wp2_with (first
    | ((have HX := HFS)
       go_at_call 95
       go_must (
         (rw [← HW1.out])
         refine HX.out.mono ?_
         rintro e w2 ⟨rfl, hb2⟩
         have hp2 := HP1.out.below hb2 HP1.out.lt
         have y0 := hp2.cell 0
         have y1 := hp2.cell 1
         have y2 := hp2.cell 2
         have y3 := hp2.cell 3
         have y4 := hp2.cell 4
         have y5 := hp2.cell 5
         simp only [List.getElem?_cons_zero, List.getElem?_cons_succ] at y0 y1 y2 y3 y4 y5
         have HBB := Lib.hid (HB1.out.trans (hb2.mono (by omega)))
         have HP2 := Lib.hid hp2
         have hz2 : W.heap.size + 1 ≤ w2.heap.size := by have := hb2.size; omega
         clear hb2 hp2 q0)))
  go_quiet (fail)
  go_wp2
  all_goals
    go_ret
    first
      | exact ⟨false, rfl, (by intro h; cases h), below_drewN HBB.out _⟩
      | exact ⟨true, rfl, fun _ => HCF.out (by omega) (by omega) (by omega) (by omega) (by omega) (by omega) (by omega), below_drewN HBB.out _⟩
      | exact ⟨_, rfl, fun _ => HCF.out (by omega) (by omega) (by omega) (by omega) (by omega) (by omega) (by omega), below_drewN HBB.out _⟩
      | exact .inl ⟨rfl, below_drewN HBB.out _⟩
      | exact .inr ⟨rfl, HCF.out (by omega) (by omega) (by omega) (by omega) (by omega) (by omega) (by omega), below_drewN HBB.out _⟩
set_option maxHeartbeats 4000000 in
set_option maxRecDepth 3000 in
theorem contentFits_7 (B : Nat) (W : World) (u o : Int) (s : ByteArray) (n : Bool → Nat) (f : Bool → Nat → VT) (A : Bool → Option Addr) (c : Bool → Nat) (h : TV W B (.mk 7 u s o n f) A c) (hB : B ≤ W.heap.size) (hU : UT B W) : CFc W 7 u o s n f A c := by
  obtain ⟨hwf, hk⟩ := h.open_
  obtain ⟨hnc0, hcm0, hk0⟩ := hk false
  simp only [VT.n] at hnc0
  have hu0 : 0 ≤ u := hwf.2.2.1
  have hu1 : u ≤ 18446744073709551615 := hwf.2.2.2.1
  have hss : s.size ≤ maxLen := hwf.2.2.2.2.2.2
  have hET : @CFt.of 7 u o s n f = @CFt.of 7 u o s n f := rfl
  have HCF := Lib.hid (@CFt.of 7 u o s n f)
  have HT := Lib.hid h
  obtain ⟨w1, hw1⟩ : ∃ w1, w1 = W.alloc (.cells #[.int .i64 7, .int .u64 u, .string s, .slice (A false) (n false) (c false), .int .i64 o, .slice (A true) (n true) (c true)] 25) := ⟨_, rfl⟩
  have hp1 : Blk w1 W.heap.size 25 [.int .i64 7, .int .u64 u, .string s, .slice (A false) (n false) (c false), .int .i64 o, .slice (A true) (n true) (c true)] := by rw [hw1]; exact Blk.new W 25 [_, _, _, _, _, _]
  have hb1 : Below W.heap.size W w1 := by rw [hw1]; exact (Below.refl _ W).alloc (Nat.le_refl _) _
  have hz1 : w1.heap.size = W.heap.size + 1 := by rw [hw1]; simp
  have hfs := fixedSize_calls w1 7 (by omega)
  rw [show fsz 7 = 2 by decide] at hfs
  have q0 := hp1.cell 0
  simp only [List.getElem?_cons_zero] at q0
  have hsm : s.size ≤ 9223372036854775807 := by simp only [maxLen] at hss; omega
  have hnm : n false ≤ 9223372036854775807 := by simp only [maxLen] at hcm0; omega
  have HFS := Lib.hid hfs
  have HW1 := Lib.hid hw1
  have HP1 := Lib.hid hp1
  have HB1 := Lib.hid hb1
  have HU := Lib.hid hU
  have HSS := Lib.hid hss
  clear hET hwf hk hk0 hw1 hp1 hb1 hfs hU hss h
  rw [HW1.out] at q0
  unfold CFc vV
  simp only [VT.k, VT.u, VT.s, VT.o, VT.n]
  have hbd : IntKind.u64.wrap (IntKind.i64.wrap (IntKind.u64.wrap (u * 281474976710656)) / 281474976710656) = u → True := fun _ => trivial
  obtain ⟨V1, hV1⟩ : ∃ V, IntKind.u64.wrap (u * 281474976710656) = V := ⟨_, rfl⟩
  rw [hV1] at hbd
  obtain ⟨V2, hV2⟩ : ∃ V, IntKind.i64.wrap V1 = V := ⟨_, rfl⟩
  rw [hV2] at hbd
  obtain ⟨V3, hV3⟩ : ∃ V, V2 / 281474976710656 = V := ⟨_, rfl⟩
  rw [hV3] at hbd
  obtain ⟨Y, hY⟩ : ∃ V, IntKind.u64.wrap V3 = V := ⟨_, rfl⟩
  rw [hY] at hbd
  by_cases hx : Y = u
  case neg =>
    have hxb : (Y != u) = true := by rw [bne_iff_ne]; exact hx
    clear hx hbd
    go_enter Tryd.func86, Tryd.ntmps86
    go_wp2_with (first
      | ((have HX := HFS)
         go_at_call 95
         go_must (
           (rw [← HW1.out])
           refine HX.out.mono ?_
           rintro e w2 ⟨rfl, hb2⟩
           have hp2 := HP1.out.below hb2 HP1.out.lt
           have y0 := hp2.cell 0
           have y1 := hp2.cell 1
           have y2 := hp2.cell 2
           have y3 := hp2.cell 3
           have y4 := hp2.cell 4
           have y5 := hp2.cell 5
           simp only [List.getElem?_cons_zero, List.getElem?_cons_succ] at y0 y1 y2 y3 y4 y5
           have HBB := Lib.hid (HB1.out.trans (hb2.mono (by omega)))
           have HP2 := Lib.hid hp2
           have hz2 : W.heap.size + 1 ≤ w2.heap.size := by have := hb2.size; omega
           clear hb2 hp2 q0)))
    go_quiet (fail)
    go_wp2
    go_ret
    exact ⟨false, rfl, (by intro h; cases h), below_drewN HBB.out _⟩
  have hub := hbd hx
  have hxb : (Y != u) = false := by rw [hx]; simp
  clear hx hbd
  go_enter Tryd.func86, Tryd.ntmps86
  go_wp2_with (first
    | ((have HX := HFS)
       go_at_call 95
       go_must (
         (rw [← HW1.out])
         refine HX.out.mono ?_
         rintro e w2 ⟨rfl, hb2⟩
         have hp2 := HP1.out.below hb2 HP1.out.lt
         have y0 := hp2.cell 0
         have y1 := hp2.cell 1
         have y2 := hp2.cell 2
         have y3 := hp2.cell 3
         have y4 := hp2.cell 4
         have y5 := hp2.cell 5
         simp only [List.getElem?_cons_zero, List.getElem?_cons_succ] at y0 y1 y2 y3 y4 y5
         have HBB := Lib.hid (HB1.out.trans (hb2.mono (by omega)))
         have HP2 := Lib.hid hp2
         have hz2 : W.heap.size + 1 ≤ w2.heap.size := by have := hb2.size; omega
         clear hb2 hp2 q0)))
  go_quiet (fail)
  go_wp2
  all_goals
    go_ret
    first
      | exact ⟨false, rfl, (by intro h; cases h), below_drewN HBB.out _⟩
      | exact ⟨true, rfl, fun _ => HCF.out (by omega) (by omega) (by omega) (by omega) (by omega) (by omega) (by omega), below_drewN HBB.out _⟩
      | exact ⟨_, rfl, fun _ => HCF.out (by omega) (by omega) (by omega) (by omega) (by omega) (by omega) (by omega), below_drewN HBB.out _⟩
      | exact .inl ⟨rfl, below_drewN HBB.out _⟩
      | exact .inr ⟨rfl, HCF.out (by omega) (by omega) (by omega) (by omega) (by omega) (by omega) (by omega), below_drewN HBB.out _⟩
set_option maxHeartbeats 4000000 in
set_option maxRecDepth 3000 in
theorem contentFits_8 (B : Nat) (W : World) (u o : Int) (s : ByteArray) (n : Bool → Nat) (f : Bool → Nat → VT) (A : Bool → Option Addr) (c : Bool → Nat) (h : TV W B (.mk 8 u s o n f) A c) (hB : B ≤ W.heap.size) (hU : UT B W) : CFc W 8 u o s n f A c := by
  obtain ⟨hwf, hk⟩ := h.open_
  obtain ⟨hnc0, hcm0, hk0⟩ := hk false
  simp only [VT.n] at hnc0
  have hu0 : 0 ≤ u := hwf.2.2.1
  have hu1 : u ≤ 18446744073709551615 := hwf.2.2.2.1
  have hss : s.size ≤ maxLen := hwf.2.2.2.2.2.2
  have hET : @CFt.of 8 u o s n f = @CFt.of 8 u o s n f := rfl
  have HCF := Lib.hid (@CFt.of 8 u o s n f)
  have HT := Lib.hid h
  obtain ⟨w1, hw1⟩ : ∃ w1, w1 = W.alloc (.cells #[.int .i64 8, .int .u64 u, .string s, .slice (A false) (n false) (c false), .int .i64 o, .slice (A true) (n true) (c true)] 25) := ⟨_, rfl⟩
  have hp1 : Blk w1 W.heap.size 25 [.int .i64 8, .int .u64 u, .string s, .slice (A false) (n false) (c false), .int .i64 o, .slice (A true) (n true) (c true)] := by rw [hw1]; exact Blk.new W 25 [_, _, _, _, _, _]
  have hb1 : Below W.heap.size W w1 := by rw [hw1]; exact (Below.refl _ W).alloc (Nat.le_refl _) _
  have hz1 : w1.heap.size = W.heap.size + 1 := by rw [hw1]; simp
  have hfs := fixedSize_calls w1 8 (by omega)
  rw [show fsz 8 = 4 by decide] at hfs
  have q0 := hp1.cell 0
  simp only [List.getElem?_cons_zero] at q0
  have hsm : s.size ≤ 9223372036854775807 := by simp only [maxLen] at hss; omega
  have hnm : n false ≤ 9223372036854775807 := by simp only [maxLen] at hcm0; omega
  have HFS := Lib.hid hfs
  have HW1 := Lib.hid hw1
  have HP1 := Lib.hid hp1
  have HB1 := Lib.hid hb1
  have HU := Lib.hid hU
  have HSS := Lib.hid hss
  clear hET hwf hk hk0 hw1 hp1 hb1 hfs hU hss h
  rw [HW1.out] at q0
  unfold CFc vV
  simp only [VT.k, VT.u, VT.s, VT.o, VT.n]
  have hbd : IntKind.u64.wrap (IntKind.i64.wrap (IntKind.u64.wrap (u * 4294967296)) / 4294967296) = u → u < 2147483648 ∨ 18446744071562067968 ≤ u := fun e => wrap_back _ _ e
  obtain ⟨V1, hV1⟩ : ∃ V, IntKind.u64.wrap (u * 4294967296) = V := ⟨_, rfl⟩
  rw [hV1] at hbd
  obtain ⟨V2, hV2⟩ : ∃ V, IntKind.i64.wrap V1 = V := ⟨_, rfl⟩
  rw [hV2] at hbd
  obtain ⟨V3, hV3⟩ : ∃ V, V2 / 4294967296 = V := ⟨_, rfl⟩
  rw [hV3] at hbd
  obtain ⟨Y, hY⟩ : ∃ V, IntKind.u64.wrap V3 = V := ⟨_, rfl⟩
  rw [hY] at hbd
  by_cases hx : Y = u
  case neg =>
    have hxb : (Y != u) = true := by rw [bne_iff_ne]; exact hx
    clear hx hbd
    go_enter Tryd.func86, Tryd.ntmps86
    go_wp2_with (first
      | ((have HX := HFS)
         go_at_call 95
         go_must (
           (rw [← HW1.out])
           refine HX.out.mono ?_
           rintro e w2 ⟨rfl, hb2⟩
           have hp2 := HP1.out.below hb2 HP1.out.lt
           have y0 := hp2.cell 0
           have y1 := hp2.cell 1
           have y2 := hp2.cell 2
           have y3 := hp2.cell 3
           have y4 := hp2.cell 4
           have y5 := hp2.cell 5
           simp only [List.getElem?_cons_zero, List.getElem?_cons_succ] at y0 y1 y2 y3 y4 y5
           have HBB := Lib.hid (HB1.out.trans (hb2.mono (by omega)))
           have HP2 := Lib.hid hp2
           have hz2 : W.heap.size + 1 ≤ w2.heap.size := by have := hb2.size; omega
           clear hb2 hp2 q0)))
    go_quiet (fail)
    go_wp2
    go_ret
    exact ⟨false, rfl, (by intro h; cases h), below_drewN HBB.out _⟩
  have hub := hbd hx
  have hxb : (Y != u) = false := by rw [hx]; simp
  clear hx hbd
  go_enter Tryd.func86, Tryd.ntmps86
  go_wp2_with (first
    | ((have HX := HFS)
       go_at_call 95
       go_must (
         (rw [← HW1.out])
         refine HX.out.mono ?_
         rintro e w2 ⟨rfl, hb2⟩
         have hp2 := HP1.out.below hb2 HP1.out.lt
         have y0 := hp2.cell 0
         have y1 := hp2.cell 1
         have y2 := hp2.cell 2
         have y3 := hp2.cell 3
         have y4 := hp2.cell 4
         have y5 := hp2.cell 5
         simp only [List.getElem?_cons_zero, List.getElem?_cons_succ] at y0 y1 y2 y3 y4 y5
         have HBB := Lib.hid (HB1.out.trans (hb2.mono (by omega)))
         have HP2 := Lib.hid hp2
         have hz2 : W.heap.size + 1 ≤ w2.heap.size := by have := hb2.size; omega
         clear hb2 hp2 q0)))
  go_quiet (fail)
  go_wp2
  all_goals
    go_ret
    first
      | exact ⟨false, rfl, (by intro h; cases h), below_drewN HBB.out _⟩
      | exact ⟨true, rfl, fun _ => HCF.out (by omega) (by omega) (by omega) (by omega) (by omega) (by omega) (by omega), below_drewN HBB.out _⟩
      | exact ⟨_, rfl, fun _ => HCF.out (by omega) (by omega) (by omega) (by omega) (by omega) (by omega) (by omega), below_drewN HBB.out _⟩
      | exact .inl ⟨rfl, below_drewN HBB.out _⟩
      | exact .inr ⟨rfl, HCF.out (by omega) (by omega) (by omega) (by omega) (by omega) (by omega) (by omega), below_drewN HBB.out _⟩
set_option maxHeartbeats 4000000 in
set_option maxRecDepth 3000 in
theorem contentFits_9 (B : Nat) (W : World) (u o : Int) (s : ByteArray) (n : Bool → Nat) (f : Bool → Nat → VT) (A : Bool → Option Addr) (c : Bool → Nat) (h : TV W B (.mk 9 u s o n f) A c) (hB : B ≤ W.heap.size) (hU : UT B W) : CFc W 9 u o s n f A c := by
  obtain ⟨hwf, hk⟩ := h.open_
  obtain ⟨hnc0, hcm0, hk0⟩ := hk false
  simp only [VT.n] at hnc0
  have hu0 : 0 ≤ u := hwf.2.2.1
  have hu1 : u ≤ 18446744073709551615 := hwf.2.2.2.1
  have hss : s.size ≤ maxLen := hwf.2.2.2.2.2.2
  have hET : @CFt.of 9 u o s n f = @CFt.of 9 u o s n f := rfl
  have HCF := Lib.hid (@CFt.of 9 u o s n f)
  have HT := Lib.hid h
  obtain ⟨w1, hw1⟩ : ∃ w1, w1 = W.alloc (.cells #[.int .i64 9, .int .u64 u, .string s, .slice (A false) (n false) (c false), .int .i64 o, .slice (A true) (n true) (c true)] 25) := ⟨_, rfl⟩
  have hp1 : Blk w1 W.heap.size 25 [.int .i64 9, .int .u64 u, .string s, .slice (A false) (n false) (c false), .int .i64 o, .slice (A true) (n true) (c true)] := by rw [hw1]; exact Blk.new W 25 [_, _, _, _, _, _]
  have hb1 : Below W.heap.size W w1 := by rw [hw1]; exact (Below.refl _ W).alloc (Nat.le_refl _) _
  have hz1 : w1.heap.size = W.heap.size + 1 := by rw [hw1]; simp
  have hfs := fixedSize_calls w1 9 (by omega)
  rw [show fsz 9 = 8 by decide] at hfs
  have q0 := hp1.cell 0
  simp only [List.getElem?_cons_zero] at q0
  have hsm : s.size ≤ 9223372036854775807 := by simp only [maxLen] at hss; omega
  have hnm : n false ≤ 9223372036854775807 := by simp only [maxLen] at hcm0; omega
  have HFS := Lib.hid hfs
  have HW1 := Lib.hid hw1
  have HP1 := Lib.hid hp1
  have HB1 := Lib.hid hb1
  have HU := Lib.hid hU
  have HSS := Lib.hid hss
  clear hET hwf hk hk0 hw1 hp1 hb1 hfs hU hss h
  rw [HW1.out] at q0
  unfold CFc vV
  simp only [VT.k, VT.u, VT.s, VT.o, VT.n]
  have hbd : IntKind.u64.wrap (IntKind.i64.wrap (IntKind.u64.wrap u)) = u → True := fun _ => trivial
  obtain ⟨V1, hV1⟩ : ∃ V, IntKind.u64.wrap u = V := ⟨_, rfl⟩
  rw [hV1] at hbd
  obtain ⟨V2, hV2⟩ : ∃ V, IntKind.i64.wrap V1 = V := ⟨_, rfl⟩
  rw [hV2] at hbd
  obtain ⟨Y, hY⟩ : ∃ V, IntKind.u64.wrap V2 = V := ⟨_, rfl⟩
  rw [hY] at hbd
  by_cases hx : Y = u
  case neg =>
    have hxb : (Y != u) = true := by rw [bne_iff_ne]; exact hx
    clear hx hbd
    go_enter Tryd.func86, Tryd.ntmps86
    go_wp2_with (first
      | ((have HX := HFS)
         go_at_call 95
         go_must (
           (rw [← HW1.out])
           refine HX.out.mono ?_
           rintro e w2 ⟨rfl, hb2⟩
           have hp2 := HP1.out.below hb2 HP1.out.lt
           have y0 := hp2.cell 0
           have y1 := hp2.cell 1
           have y2 := hp2.cell 2
           have y3 := hp2.cell 3
           have y4 := hp2.cell 4
           have y5 := hp2.cell 5
           simp only [List.getElem?_cons_zero, List.getElem?_cons_succ] at y0 y1 y2 y3 y4 y5
           have HBB := Lib.hid (HB1.out.trans (hb2.mono (by omega)))
           have HP2 := Lib.hid hp2
           have hz2 : W.heap.size + 1 ≤ w2.heap.size := by have := hb2.size; omega
           clear hb2 hp2 q0)))
    go_quiet (fail)
    go_wp2
    go_ret
    exact ⟨false, rfl, (by intro h; cases h), below_drewN HBB.out _⟩
  have hub := hbd hx
  have hxb : (Y != u) = false := by rw [hx]; simp
  clear hx hbd
  go_enter Tryd.func86, Tryd.ntmps86
  go_wp2_with (first
    | ((have HX := HFS)
       go_at_call 95
       go_must (
         (rw [← HW1.out])
         refine HX.out.mono ?_
         rintro e w2 ⟨rfl, hb2⟩
         have hp2 := HP1.out.below hb2 HP1.out.lt
         have y0 := hp2.cell 0
         have y1 := hp2.cell 1
         have y2 := hp2.cell 2
         have y3 := hp2.cell 3
         have y4 := hp2.cell 4
         have y5 := hp2.cell 5
         simp only [List.getElem?_cons_zero, List.getElem?_cons_succ] at y0 y1 y2 y3 y4 y5
         have HBB := Lib.hid (HB1.out.trans (hb2.mono (by omega)))
         have HP2 := Lib.hid hp2
         have hz2 : W.heap.size + 1 ≤ w2.heap.size := by have := hb2.size; omega
         clear hb2 hp2 q0)))
  go_quiet (fail)
  go_wp2
  all_goals
    go_ret
    first
      | exact ⟨false, rfl, (by intro h; cases h), below_drewN HBB.out _⟩
      | exact ⟨true, rfl, fun _ => HCF.out (by omega) (by omega) (by omega) (by omega) (by omega) (by omega) (by omega), below_drewN HBB.out _⟩
      | exact ⟨_, rfl, fun _ => HCF.out (by omega) (by omega) (by omega) (by omega) (by omega) (by omega) (by omega), below_drewN HBB.out _⟩
      | exact .inl ⟨rfl, below_drewN HBB.out _⟩
      | exact .inr ⟨rfl, HCF.out (by omega) (by omega) (by omega) (by omega) (by omega) (by omega) (by omega), below_drewN HBB.out _⟩
set_option maxHeartbeats 4000000 in
set_option maxRecDepth 100000 in
theorem contentFits_10 (B : Nat) (W : World) (u o : Int) (s : ByteArray) (n : Bool → Nat) (f : Bool → Nat → VT) (A : Bool → Option Addr) (c : Bool → Nat) (h : TV W B (.mk 10 u s o n f) A c) (hB : B ≤ W.heap.size) (hU : UT B W) : CFc W 10 u o s n f A c := by
  obtain ⟨hwf, hk⟩ := h.open_
  obtain ⟨hnc0, hcm0, hk0⟩ := hk false
  simp only [VT.n] at hnc0
  have hu0 : 0 ≤ u := hwf.2.2.1
  have hu1 : u ≤ 18446744073709551615 := hwf.2.2.2.1
  have hss : s.size ≤ maxLen := hwf.2.2.2.2.2.2
  have hET : @CFt.of 10 u o s n f = @CFt.of 10 u o s n f := rfl
  have HCF := Lib.hid (@CFt.of 10 u o s n f)
  have HT := Lib.hid h
  obtain ⟨w1, hw1⟩ : ∃ w1, w1 = W.alloc (.cells #[.int .i64 10, .int .u64 u, .string s, .slice (A false) (n false) (c false), .int .i64 o, .slice (A true) (n true) (c true)] 25) := ⟨_, rfl⟩
  have hp1 : Blk w1 W.heap.size 25 [.int .i64 10, .int .u64 u, .string s, .slice (A false) (n false) (c false), .int .i64 o, .slice (A true) (n true) (c true)] := by rw [hw1]; exact Blk.new W 25 [_, _, _, _, _, _]
  have hb1 : Below W.heap.size W w1 := by rw [hw1]; exact (Below.refl _ W).alloc (Nat.le_refl _) _
  have hz1 : w1.heap.size = W.heap.size + 1 := by rw [hw1]; simp
  have hfs := fixedSize_calls w1 10 (by omega)
  rw [show fsz 10 = 4 by decide] at hfs
  have q0 := hp1.cell 0
  simp only [List.getElem?_cons_zero] at q0
  have hsm : s.size ≤ 9223372036854775807 := by simp only [maxLen] at hss; omega
  have hnm : n false ≤ 9223372036854775807 := by simp only [maxLen] at hcm0; omega
  have HFS := Lib.hid hfs
  have HW1 := Lib.hid hw1
  have HP1 := Lib.hid hp1
  have HB1 := Lib.hid hb1
  have HU := Lib.hid hU
  have HSS := Lib.hid hss
  clear hET hwf hk hk0 hw1 hp1 hb1 hfs hU hss h
  rw [HW1.out] at q0
  unfold CFc vV
  simp only [VT.k, VT.u, VT.s, VT.o, VT.n]
  have hbd : IntKind.u64.wrap (u * 4294967296) / 4294967296 = u → u < 4294967296 := fun e => by rw [IntKind.wrap_u64] at e; omega
  by_cases hx : IntKind.u64.wrap (u * 4294967296) / 4294967296 = u
  case neg =>
    have hxb : (IntKind.u64.wrap (u * 4294967296) / 4294967296 != u) = true := by rw [bne_iff_ne]; exact hx
    clear hx hbd
    go_enter Tryd.func86, Tryd.ntmps86
    go_wp2_with (first
      | ((have HX := HFS)
         go_at_call 95
         go_must (
           (rw [← HW1.out])
           refine HX.out.mono ?_
           rintro e w2 ⟨rfl, hb2⟩
           have hp2 := HP1.out.below hb2 HP1.out.lt
           have y0 := hp2.cell 0
           have y1 := hp2.cell 1
           have y2 := hp2.cell 2
           have y3 := hp2.cell 3
           have y4 := hp2.cell 4
           have y5 := hp2.cell 5
           simp only [List.getElem?_cons_zero, List.getElem?_cons_succ] at y0 y1 y2 y3 y4 y5
           have HBB := Lib.hid (HB1.out.trans (hb2.mono (by omega)))
           have HP2 := Lib.hid hp2
           have hz2 : W.heap.size + 1 ≤ w2.heap.size := by have := hb2.size; omega
           clear hb2 hp2 q0)))
    go_quiet (fail)
    go_wp2
    go_ret
    exact ⟨false, rfl, (by intro h; cases h), below_drewN HBB.out _⟩
  have hub := hbd hx
  have hxb : (IntKind.u64.wrap (u * 4294967296) / 4294967296 != u) = false := by rw [hx]; simp
  clear hx hbd
  go_enter Tryd.func86, Tryd.ntmps86
  go_wp2_with (first
    | ((have HX := HFS)
       go_at_call 95
       go_must (
         (rw [← HW1.out])
         refine HX.out.mono ?_
         rintro e w2 ⟨rfl, hb2⟩
         have hp2 := HP1.out.below hb2 HP1.out.lt
         have y0 := hp2.cell 0
         have y1 := hp2.cell 1
         have y2 := hp2.cell 2
         have y3 := hp2.cell 3
         have y4 := hp2.cell 4
         have y5 := hp2.cell 5
         simp only [List.getElem?_cons_zero, List.getElem?_cons_succ] at y0 y1 y2 y3 y4 y5
         have HBB := Lib.hid (HB1.out.trans (hb2.mono (by omega)))
         have HP2 := Lib.hid hp2
         have hz2 : W.heap.size + 1 ≤ w2.heap.size := by have := hb2.size; omega
         clear hb2 hp2 q0)))
  go_quiet (fail)
  go_wp2
  all_goals
    go_ret
    first
      | exact ⟨false, rfl, (by intro h; cases h), below_drewN HBB.out _⟩
      | exact ⟨true, rfl, fun _ => HCF.out (by omega) (by omega) (by omega) (by omega) (by omega) (by omega) (by omega), below_drewN HBB.out _⟩
      | exact ⟨_, rfl, fun _ => HCF.out (by omega) (by omega) (by omega) (by omega) (by omega) (by omega) (by omega), below_drewN HBB.out _⟩
      | exact .inl ⟨rfl, below_drewN HBB.out _⟩
      | exact .inr ⟨rfl, HCF.out (by omega) (by omega) (by omega) (by omega) (by omega) (by omega) (by omega), below_drewN HBB.out _⟩
set_option maxHeartbeats 4000000 in
set_option maxRecDepth 100000 in
theorem contentFits_11 (B : Nat) (W : World) (u o : Int) (s : ByteArray) (n : Bool → Nat) (f : Bool → Nat → VT) (A : Bool → Option Addr) (c : Bool → Nat) (h : TV W B (.mk 11 u s o n f) A c) (hB : B ≤ W.heap.size) (hU : UT B W) : CFc W 11 u o s n f A c := by
  obtain ⟨hwf, hk⟩ := h.open_
  obtain ⟨hnc0, hcm0, hk0⟩ := hk false
  simp only [VT.n] at hnc0
  have hu0 : 0 ≤ u := hwf.2.2.1
  have hu1 : u ≤ 18446744073709551615 := hwf.2.2.2.1
  have hss : s.size ≤ maxLen := hwf.2.2.2.2.2.2
  have hET : @CFt.of 11 u o s n f = @CFt.of 11 u o s n f := rfl
  have HCF := Lib.hid (@CFt.of 11 u o s n f)
  have HT := Lib.hid h
  obtain ⟨w1, hw1⟩ : ∃ w1, w1 = W.alloc (.cells #[.int .i64 11, .int .u64 u, .string s, .slice (A false) (n false) (c false), .int .i64 o, .slice (A true) (n true) (c true)] 25) := ⟨_, rfl⟩
  have hp1 : Blk w1 W.heap.size 25 [.int .i64 11, .int .u64 u, .string s, .slice (A false) (n false) (c false), .int .i64 o, .slice (A true) (n true) (c true)] := by rw [hw1]; exact Blk.new W 25 [_, _, _, _, _, _]
  have hb1 : Below W.heap.size W w1 := by rw [hw1]; exact (Below.refl _ W).alloc (Nat.le_refl _) _
  have hz1 : w1.heap.size = W.heap.size + 1 := by rw [hw1]; simp
  have hfs := fixedSize_calls w1 11 (by omega)
  rw [show fsz 11 = 8 by decide] at hfs
  have q0 := hp1.cell 0
  simp only [List.getElem?_cons_zero] at q0
  have hsm : s.size ≤ 9223372036854775807 := by simp only [maxLen] at hss; omega
  have hnm : n false ≤ 9223372036854775807 := by simp only [maxLen] at hcm0; omega
  have HFS := Lib.hid hfs
  have HW1 := Lib.hid hw1
  have HP1 := Lib.hid hp1
  have HB1 := Lib.hid hb1
  have HU := Lib.hid hU
  have HSS := Lib.hid hss
  clear hET hwf hk hk0 hw1 hp1 hb1 hfs hU hss h
  rw [HW1.out] at q0
  unfold CFc vV
  simp only [VT.k, VT.u, VT.s, VT.o, VT.n]
  go_enter Tryd.func86, Tryd.ntmps86
  go_wp2_with (first
    | ((have HX := HFS)
       go_at_call 95
       go_must (
         (rw [← HW1.out])
         refine HX.out.mono ?_
         rintro e w2 ⟨rfl, hb2⟩
         have hp2 := HP1.out.below hb2 HP1.out.lt
         have y0 := hp2.cell 0
         have y1 := hp2.cell 1
         have y2 := hp2.cell 2
         have y3 := hp2.cell 3
         have y4 := hp2.cell 4
         have y5 := hp2.cell 5
         simp only [List.getElem?_cons_zero, List.getElem?_cons_succ] at y0 y1 y2 y3 y4 y5
         have HBB := Lib.hid (HB1.out.trans (hb2.mono (by omega)))
         have HP2 := Lib.hid hp2
         have hz2 : W.heap.size + 1 ≤ w2.heap.size := by have := hb2.size; omega
         clear hb2 hp2 q0)))
  go_quiet (fail)
  go_wp2
  all_goals
    go_ret
    first
      | exact ⟨false, rfl, (by intro h; cases h), below_drewN HBB.out _⟩
      | exact ⟨true, rfl, fun _ => HCF.out (by omega) (by omega) (by omega) (by omega) (by omega) (by omega) (by omega), below_drewN HBB.out _⟩
      | exact ⟨_, rfl, fun _ => HCF.out (by omega) (by omega) (by omega) (by omega) (by omega) (by omega) (by omega), below_drewN HBB.out _⟩
      | exact .inl ⟨rfl, below_drewN HBB.out _⟩
      | exact .inr ⟨rfl, HCF.out (by omega) (by omega) (by omega) (by omega) (by omega) (by omega) (by omega), below_drewN HBB.out _⟩
set_option maxHeartbeats 4000000 in
set_option maxRecDepth 100000 in
theorem contentFits_12 (B : Nat) (W : World) (u o : Int) (s : ByteArray) (n : Bool → Nat) (f : Bool → Nat → VT) (A : Bool → Option Addr) (c : Bool → Nat) (h : TV W B (.mk 12 u s o n f) A c) (hB : B ≤ W.heap.size) (hU : UT B W) : CFc W 12 u o s n f A c := by
  obtain ⟨hwf, hk⟩ := h.open_
  obtain ⟨hnc0, hcm0, hk0⟩ := hk false
  simp only [VT.n] at hnc0
  have hu0 : 0 ≤ u := hwf.2.2.1
  have hu1 : u ≤ 18446744073709551615 := hwf.2.2.2.1
  have hss : s.size ≤ maxLen := hwf.2.2.2.2.2.2
  have hET : @CFt.of 12 u o s n f = @CFt.of 12 u o s n f := rfl
  have HCF := Lib.hid (@CFt.of 12 u o s n f)
  have HT := Lib.hid h
  obtain ⟨w1, hw1⟩ : ∃ w1, w1 = W.alloc (.cells #[.int .i64 12, .int .u64 u, .string s, .slice (A false) (n false) (c false), .int .i64 o, .slice (A true) (n true) (c true)] 25) := ⟨_, rfl⟩
  have hp1 : Blk w1 W.heap.size 25 [.int .i64 12, .int .u64 u, .string s, .slice (A false) (n false) (c false), .int .i64 o, .slice (A true) (n true) (c true)] := by rw [hw1]; exact Blk.new W 25 [_, _, _, _, _, _]
  have hb1 : Below W.heap.size W w1 := by rw [hw1]; exact (Below.refl _ W).alloc (Nat.le_refl _) _
  have hz1 : w1.heap.size = W.heap.size + 1 := by rw [hw1]; simp
  have hfs := fixedSize_calls w1 12 (by omega)
  rw [show fsz 12 = 4 by decide] at hfs
  have q0 := hp1.cell 0
  simp only [List.getElem?_cons_zero] at q0
  have hsm : s.size ≤ 9223372036854775807 := by simp only [maxLen] at hss; omega
  have hnm : n false ≤ 9223372036854775807 := by simp only [maxLen] at hcm0; omega
  have HFS := Lib.hid hfs
  have HW1 := Lib.hid hw1
  have HP1 := Lib.hid hp1
  have HB1 := Lib.hid hb1
  have HU := Lib.hid hU
  have HSS := Lib.hid hss
  clear hET hwf hk hk0 hw1 hp1 hb1 hfs hU hss h
  rw [HW1.out] at q0
  unfold CFc vV
  simp only [VT.k, VT.u, VT.s, VT.o, VT.n]
  have hbd : IntKind.u64.wrap (u * 4294967296) / 4294967296 = u → u < 4294967296 := fun e => by rw [IntKind.wrap_u64] at e; omega
  by_cases hx : IntKind.u64.wrap (u * 4294967296) / 4294967296 = u
  case neg =>
    have hxb : (IntKind.u64.wrap (u * 4294967296) / 4294967296 != u) = true := by rw [bne_iff_ne]; exact hx
    clear hx hbd
    go_enter Tryd.func86, Tryd.ntmps86
    go_wp2_with (first
      | ((have HX := HFS)
         go_at_call 95
         go_must (
           (rw [← HW1.out])
           refine HX.out.mono ?_
           rintro e w2 ⟨rfl, hb2⟩
           have hp2 := HP1.out.below hb2 HP1.out.lt
           have y0 := hp2.cell 0
           have y1 := hp2.cell 1
           have y2 := hp2.cell 2
           have y3 := hp2.cell 3
           have y4 := hp2.cell 4
           have y5 := hp2.cell 5
           simp only [List.getElem?_cons_zero, List.getElem?_cons_succ] at y0 y1 y2 y3 y4 y5
           have HBB := Lib.hid (HB1.out.trans (hb2.mono (by omega)))
           have HP2 := Lib.hid hp2
           have hz2 : W.heap.size + 1 ≤ w2.heap.size := by have := hb2.size; omega
           clear hb2 hp2 q0)))
    go_quiet (fail)
    go_wp2
    go_ret
    exact ⟨false, rfl, (by intro h; cases h), below_drewN HBB.out _⟩
  have hub := hbd hx
  have hxb : (IntKind.u64.wrap (u * 4294967296) / 4294967296 != u) = false := by rw [hx]; simp
  clear hx hbd
  go_enter Tryd.func86, Tryd.ntmps86
  go_wp2_with (first
    | ((have HX := HFS)
       go_at_call 95
       go_must (
         (rw [← HW1.out])
         refine HX.out.mono ?_
         rintro e w2 ⟨rfl, hb2⟩
         have hp2 := HP1.out.below hb2 HP1.out.lt
         have y0 := hp2.cell 0
         have y1 := hp2.cell 1
         have y2 := hp2.cell 2
         have y3 := hp2.cell 3
         have y4 := hp2.cell 4
         have y5 := hp2.cell 5
         simp only [List.getElem?_cons_zero, List.getElem?_cons_succ] at y0 y1 y2 y3 y4 y5
         have HBB := Lib.hid (HB1.out.trans (hb2.mono (by omega)))
         have HP2 := Lib.hid hp2
         have hz2 : W.heap.size + 1 ≤ w2.heap.size := by have := hb2.size; omega
         clear hb2 hp2 q0)))
  go_quiet (fail)
  go_wp2
  all_goals
    go_ret
    first
      | exact ⟨false, rfl, (by intro h; cases h), below_drewN HBB.out _⟩
      | exact ⟨true, rfl, fun _ => HCF.out (by omega) (by omega) (by omega) (by omega) (by omega) (by omega) (by omega), below_drewN HBB.out _⟩
      | exact ⟨_, rfl, fun _ => HCF.out (by omega) (by omega) (by omega) (by omega) (by omega) (by omega) (by omega), below_drewN HBB.out _⟩
      | exact .inl ⟨rfl, below_drewN HBB.out _⟩
      | exact .inr ⟨rfl, HCF.out (by omega) (by omega) (by omega) (by omega) (by omega) (by omega) (by omega), below_drewN HBB.out _⟩
set_option maxHeartbeats 4000000 in
set_option maxRecDepth 100000 in
theorem contentFits_13 (B : Nat) (W : World) (u o : Int) (s : ByteArray) (n : Bool → Nat) (f : Bool → Nat → VT) (A : Bool → Option Addr) (c : Bool → Nat) (h : TV W B (.mk 13 u s o n f) A c) (hB : B ≤ W.heap.size) (hU : UT B W) : CFc W 13 u o s n f A c := by
  obtain ⟨hwf, hk⟩ := h.open_
  obtain ⟨hnc0, hcm0, hk0⟩ := hk false
  simp only [VT.n] at hnc0
  have hu0 : 0 ≤ u := hwf.2.2.1
  have hu1 : u ≤ 18446744073709551615 := hwf.2.2.2.1
  have hss : s.size ≤ maxLen := hwf.2.2.2.2.2.2
  have hET : @CFt.of 13 u o s n f = @CFt.of 13 u o s n f := rfl
  have HCF := Lib.hid (@CFt.of 13 u o s n f)
  have HT := Lib.hid h
  obtain ⟨w1, hw1⟩ : ∃ w1, w1 = W.alloc (.cells #[.int .i64 13, .int .u64 u, .string s, .slice (A false) (n false) (c false), .int .i64 o, .slice (A true) (n true) (c true)] 25) := ⟨_, rfl⟩
  have hp1 : Blk w1 W.heap.size 25 [.int .i64 13, .int .u64 u, .string s, .slice (A false) (n false) (c false), .int .i64 o, .slice (A true) (n true) (c true)] := by rw [hw1]; exact Blk.new W 25 [_, _, _, _, _, _]
  have hb1 : Below W.heap.size W w1 := by rw [hw1]; exact (Below.refl _ W).alloc (Nat.le_refl _) _
  have hz1 : w1.heap.size = W.heap.size + 1 := by rw [hw1]; simp
  have hfs := fixedSize_calls w1 13 (by omega)
  rw [show fsz 13 = 8 by decide] at hfs
  have q0 := hp1.cell 0
  simp only [List.getElem?_cons_zero] at q0
  have hsm : s.size ≤ 9223372036854775807 := by simp only [maxLen] at hss; omega
  have hnm : n false ≤ 9223372036854775807 := by simp only [maxLen] at hcm0; omega
  have HFS := Lib.hid hfs
  have HW1 := Lib.hid hw1
  have HP1 := Lib.hid hp1
  have HB1 := Lib.hid hb1
  have HU := Lib.hid hU
  have HSS := Lib.hid hss
  clear hET hwf hk hk0 hw1 hp1 hb1 hfs hU hss h
  rw [HW1.out] at q0
  unfold CFc vV
  simp only [VT.k, VT.u, VT.s, VT.o, VT.n]
  go_enter Tryd.func86, Tryd.ntmps86
  go_wp2_with (first
    | ((have HX := HFS)
       go_at_call 95
       go_must (
         (rw [← HW1.out])
         refine HX.out.mono ?_
         rintro e w2 ⟨rfl, hb2⟩
         have hp2 := HP1.out.below hb2 HP1.out.lt
         have y0 := hp2.cell 0
         have y1 := hp2.cell 1
         have y2 := hp2.cell 2
         have y3 := hp2.cell 3
         have y4 := hp2.cell 4
         have y5 := hp2.cell 5
         simp only [List.getElem?_cons_zero, List.getElem?_cons_succ] at y0 y1 y2 y3 y4 y5
         have HBB := Lib.hid (HB1.out.trans (hb2.mono (by omega)))
         have HP2 := Lib.hid hp2
         have hz2 : W.heap.size + 1 ≤ w2.heap.size := by have := hb2.size; omega
         clear hb2 hp2 q0)))
  go_quiet (fail)
  go_wp2
  all_goals
    go_ret
    first
      | exact ⟨false, rfl, (by intro h; cases h), below_drewN HBB.out _⟩
      | exact ⟨true, rfl, fun _ => HCF.out (by omega) (by omega) (by omega) (by omega) (by omega) (by omega) (by omega), below_drewN HBB.out _⟩
      | exact ⟨_, rfl, fun _ => HCF.out (by omega) (by omega) (by omega) (by omega) (by omega) (by omega) (by omega), below_drewN HBB.out _⟩
      | exact .inl ⟨rfl, below_drewN HBB.out _⟩
      | exact .inr ⟨rfl, HCF.out (by omega) (by omega) (by omega) (by omega) (by omega) (by omega) (by omega), below_drewN HBB.out _⟩
set_option maxHeartbeats 4000000 in
set_option maxRecDepth 100000 in
theorem contentFits_14 (B : Nat) (W : World) (u o : Int) (s : ByteArray) (n : Bool → Nat) (f : Bool → Nat → VT) (A : Bool → Option Addr) (c : Bool → Nat) (h : TV W B (.mk 14 u s o n f) A c) (hB : B ≤ W.heap.size) (hU : UT B W) : CFc W 14 u o s n f A c := by
  obtain ⟨hwf, hk⟩ := h.open_
  obtain ⟨hnc0, hcm0, hk0⟩ := hk false
  simp only [VT.n] at hnc0
  have hu0 : 0 ≤ u := hwf.2.2.1
  have hu1 : u ≤ 18446744073709551615 := hwf.2.2.2.1
  have hss : s.size ≤ maxLen := hwf.2.2.2.2.2.2
  have hET : @CFt.of 14 u o s n f = @CFt.of 14 u o s n f := rfl
  have HCF := Lib.hid (@CFt.of 14 u o s n f)
  have HT := Lib.hid h
  obtain ⟨w1, hw1⟩ : ∃ w1, w1 = W.alloc (.cells #[.int .i64 14, .int .u64 u, .string s, .slice (A false) (n false) (c false), .int .i64 o, .slice (A true) (n true) (c true)] 25) := ⟨_, rfl⟩
  have hp1 : Blk w1 W.heap.size 25 [.int .i64 14, .int .u64 u, .string s, .slice (A false) (n false) (c false), .int .i64 o, .slice (A true) (n true) (c true)] := by rw [hw1]; exact Blk.new W 25 [_, _, _, _, _, _]
  have hb1 : Below W.heap.size W w1 := by rw [hw1]; exact (Below.refl _ W).alloc (Nat.le_refl _) _
  have hz1 : w1.heap.size = W.heap.size + 1 := by rw [hw1]; simp
  have hfs := fixedSize_calls w1 14 (by omega)
  rw [show fsz 14 = 16 by decide] at hfs
  have q0 := hp1.cell 0
  simp only [List.getElem?_cons_zero] at q0
  have hsm : s.size ≤ 9223372036854775807 := by simp only [maxLen] at hss; omega
  have hnm : n false ≤ 9223372036854775807 := by simp only [maxLen] at hcm0; omega
  have HFS := Lib.hid hfs
  have HW1 := Lib.hid hw1
  have HP1 := Lib.hid hp1
  have HB1 := Lib.hid hb1
  have HU := Lib.hid hU
  have HSS := Lib.hid hss
  clear hET hwf hk hk0 hw1 hp1 hb1 hfs hU hss h
  rw [HW1.out] at q0
  unfold CFc vV
  simp only [VT.k, VT.u, VT.s, VT.o, VT.n]
  go_enter Tryd.func86, Tryd.ntmps86
  go_wp2_with (first
    | ((have HX := HFS)
       go_at_call 95
       go_must (
         (rw [← HW1.out])
         refine HX.out.mono ?_
         rintro e w2 ⟨rfl, hb2⟩
         have hp2 := HP1.out.below hb2 HP1.out.lt
         have y0 := hp2.cell 0
         have y1 := hp2.cell 1
         have y2 := hp2.cell 2
         have y3 := hp2.cell 3
         have y4 := hp2.cell 4
         have y5 := hp2.cell 5
         simp only [List.getElem?_cons_zero, List.getElem?_cons_succ] at y0 y1 y2 y3 y4 y5
         have HBB := Lib.hid (HB1.out.trans (hb2.mono (by omega)))
         have HP2 := Lib.hid hp2
         have hz2 : W.heap.size + 1 ≤ w2.heap.size := by have := hb2.size; omega
         clear hb2 hp2 q0)))
  all_goals
    go_ret
    first
      | exact ⟨false, rfl, (by intro h; cases h), HBB.out⟩
      | exact ⟨true, rfl, fun _ => HCF.out (by omega) (by omega) (by omega) (by omega) (by omega) (by omega) (by omega), HBB.out⟩
      | exact ⟨_, rfl, fun _ => HCF.out (by omega) (by omega) (by omega) (by omega) (by omega) (by omega) (by omega), HBB.out⟩
      | exact .inl ⟨rfl, HBB.out⟩
      | exact .inr ⟨rfl, HCF.out (by omega) (by omega) (by omega) (by omega) (by omega) (by omega) (by omega), HBB.out⟩
set_option maxHeartbeats 4000000 in
set_option maxRecDepth 100000 in
theorem contentFits_15 (B : Nat) (W : World) (u o : Int) (s : ByteArray) (n : Bool → Nat) (f : Bool → Nat → VT) (A : Bool → Option Addr) (c : Bool → Nat) (h : TV W B (.mk 15 u s o n f) A c) (hB : B ≤ W.heap.size) (hU : UT B W) : CFc W 15 u o s n f A c := by
  obtain ⟨hwf, hk⟩ := h.open_
  obtain ⟨hnc0, hcm0, hk0⟩ := hk false
  simp only [VT.n] at hnc0
  have hu0 : 0 ≤ u := hwf.2.2.1
  have hu1 : u ≤ 18446744073709551615 := hwf.2.2.2.1
  have hss : s.size ≤ maxLen := hwf.2.2.2.2.2.2
  have hET : @CFt.of 15 u o s n f = @CFt.of 15 u o s n f := rfl
  have HCF := Lib.hid (@CFt.of 15 u o s n f)
  have HT := Lib.hid h
  obtain ⟨w1, hw1⟩ : ∃ w1, w1 = W.alloc (.cells #[.int .i64 15, .int .u64 u, .string s, .slice (A false) (n false) (c false), .int .i64 o, .slice (A true) (n true) (c true)] 25) := ⟨_, rfl⟩
  have hp1 : Blk w1 W.heap.size 25 [.int .i64 15, .int .u64 u, .string s, .slice (A false) (n false) (c false), .int .i64 o, .slice (A true) (n true) (c true)] := by rw [hw1]; exact Blk.new W 25 [_, _, _, _, _, _]
  have hb1 : Below W.heap.size W w1 := by rw [hw1]; exact (Below.refl _ W).alloc (Nat.le_refl _) _
  have hz1 : w1.heap.size = W.heap.size + 1 := by rw [hw1]; simp
  have hfs := fixedSize_calls w1 15 (by omega)
  rw [show fsz 15 = 4 by decide] at hfs
  have q0 := hp1.cell 0
  simp only [List.getElem?_cons_zero] at q0
  have hsm : s.size ≤ 9223372036854775807 := by simp only [maxLen] at hss; omega
  have hnm : n false ≤ 9223372036854775807 := by simp only [maxLen] at hcm0; omega
  have HFS := Lib.hid hfs
  have HW1 := Lib.hid hw1
  have HP1 := Lib.hid hp1
  have HB1 := Lib.hid hb1
  have HU := Lib.hid hU
  have HSS := Lib.hid hss
  clear hET hwf hk hk0 hw1 hp1 hb1 hfs hU hss h
  rw [HW1.out] at q0
  unfold CFc vV
  simp only [VT.k, VT.u, VT.s, VT.o, VT.n]
  have hbd : IntKind.u64.wrap (u * 4294967296) / 4294967296 = u → u < 4294967296 := fun e => by rw [IntKind.wrap_u64] at e; omega
  by_cases hx : IntKind.u64.wrap (u * 4294967296) / 4294967296 = u
  case neg =>
    have hxb : (IntKind.u64.wrap (u * 4294967296) / 4294967296 != u) = true := by rw [bne_iff_ne]; exact hx
    clear hx hbd
    go_enter Tryd.func86, Tryd.ntmps86
    go_wp2_with (first
      | ((have HX := HFS)
         go_at_call 95
         go_must (
           (rw [← HW1.out])
           refine HX.out.mono ?_
           rintro e w2 ⟨rfl, hb2⟩
           have hp2 := HP1.out.below hb2 HP1.out.lt
           have y0 := hp2.cell 0
           have y1 := hp2.cell 1
           have y2 := hp2.cell 2
           have y3 := hp2.cell 3
           have y4 := hp2.cell 4
           have y5 := hp2.cell 5
           simp only [List.getElem?_cons_zero, List.getElem?_cons_succ] at y0 y1 y2 y3 y4 y5
           have HBB := Lib.hid (HB1.out.trans (hb2.mono (by omega)))
           have HP2 := Lib.hid hp2
           have hz2 : W.heap.size + 1 ≤ w2.heap.size := by have := hb2.size; omega
           clear hb2 hp2 q0)))
    go_quiet (fail)
    go_wp2
    go_ret
    exact ⟨false, rfl, (by intro h; cases h), below_drewN HBB.out _⟩
  have hub := hbd hx
  have hxb : (IntKind.u64.wrap (u * 4294967296) / 4294967296 != u) = false := by rw [hx]; simp
  clear hx hbd
  go_enter Tryd.func86, Tryd.ntmps86
  go_wp2_with (first
    | ((have HX := HFS)
       go_at_call 95
       go_must (
         (rw [← HW1.out])
         refine HX.out.mono ?_
         rintro e w2 ⟨rfl, hb2⟩
         have hp2 := HP1.out.below hb2 HP1.out.lt
         have y0 := hp2.cell 0
         have y1 := hp2.cell 1
         have y2 := hp2.cell 2
         have y3 := hp2.cell 3
         have y4 := hp2.cell 4
         have y5 := hp2.cell 5
         simp only [List.getElem?_cons_zero, List.getElem?_cons_succ] at y0 y1 y2 y3 y4 y5
         have HBB := Lib.hid (HB1.out.trans (hb2.mono (by omega)))
         have HP2 := Lib.hid hp2
         have hz2 : W.heap.size + 1 ≤ w2.heap.size := by have := hb2.size; omega
         clear hb2 hp2 q0)))
  go_quiet (fail)
  go_wp2
  all_goals
    go_ret
    first
      | exact ⟨false, rfl, (by intro h; cases h), below_drewN HBB.out _⟩
      | exact ⟨true, rfl, fun _ => HCF.out (by omega) (by omega) (by omega) (by omega) (by omega) (by omega) (by omega), below_drewN HBB.out _⟩
      | exact ⟨_, rfl, fun _ => HCF.out (by omega) (by omega) (by omega) (by omega) (by omega) (by omega) (by omega), below_drewN HBB.out _⟩
      | exact .inl ⟨rfl, below_drewN HBB.out _⟩
      | exact .inr ⟨rfl, HCF.out (by omega) (by omega) (by omega) (by omega) (by omega) (by omega) (by omega), below_drewN HBB.out _⟩
set_option maxHeartbeats 4000000 in
set_option maxRecDepth 100000 in
theorem contentFits_16 (B : Nat) (W : World) (u o : Int) (s : ByteArray) (n : Bool → Nat) (f : Bool → Nat → VT) (A : Bool → Option Addr) (c : Bool → Nat) (h : TV W B (.mk 16 u s o n f) A c) (hB : B ≤ W.heap.size) (hU : UT B W) : CFc W 16 u o s n f A c := by
  obtain ⟨hwf, hk⟩ := h.open_
  obtain ⟨hnc0, hcm0, hk0⟩ := hk false
  simp only [VT.n] at hnc0
  have hu0 : 0 ≤ u := hwf.2.2.1
  have hu1 : u ≤ 18446744073709551615 := hwf.2.2.2.1
  have hss : s.size ≤ maxLen := hwf.2.2.2.2.2.2
  have hET : @CFt.of 16 u o s n f = @CFt.of 16 u o s n f := rfl
  have HCF := Lib.hid (@CFt.of 16 u o s n f)
  have HT := Lib.hid h
  obtain ⟨w1, hw1⟩ : ∃ w1, w1 = W.alloc (.cells #[.int .i64 16, .int .u64 u, .string s, .slice (A false) (n false) (c false), .int .i64 o, .slice (A true) (n true) (c true)] 25) := ⟨_, rfl⟩
  have hp1 : Blk w1 W.heap.size 25 [.int .i64 16, .int .u64 u, .string s, .slice (A false) (n false) (c false), .int .i64 o, .slice (A true) (n true) (c true)] := by rw [hw1]; exact Blk.new W 25 [_, _, _, _, _, _]
  have hb1 : Below W.heap.size W w1 := by rw [hw1]; exact (Below.refl _ W).alloc (Nat.le_refl _) _
  have hz1 : w1.heap.size = W.heap.size + 1 := by rw [hw1]; simp
  have hfs := fixedSize_calls w1 16 (by omega)
  rw [show fsz 16 = 8 by decide] at hfs
  have q0 := hp1.cell 0
  simp only [List.getElem?_cons_zero] at q0
  have hsm : s.size ≤ 9223372036854775807 := by simp only [maxLen] at hss; omega
  have hnm : n false ≤ 9223372036854775807 := by simp only [maxLen] at hcm0; omega
  have HFS := Lib.hid hfs
  have HW1 := Lib.hid hw1
  have HP1 := Lib.hid hp1
  have HB1 := Lib.hid hb1
  have HU := Lib.hid hU
  have HSS := Lib.hid hss
  clear hET hwf hk hk0 hw1 hp1 hb1 hfs hU hss h
  rw [HW1.out] at q0
  unfold CFc vV
  simp only [VT.k, VT.u, VT.s, VT.o, VT.n]
  go_enter Tryd.func86, Tryd.ntmps86
  go_wp2_with (first
    | ((have HX := HFS)
       go_at_call 95
       go_must (
         (rw [← HW1.out])
         refine HX.out.mono ?_
         rintro e w2 ⟨rfl, hb2⟩
         have hp2 := HP1.out.below hb2 HP1.out.lt
         have y0 := hp2.cell 0
         have y1 := hp2.cell 1
         have y2 := hp2.cell 2
         have y3 := hp2.cell 3
         have y4 := hp2.cell 4
         have y5 := hp2.cell 5
         simp only [List.getElem?_cons_zero, List.getElem?_cons_succ] at y0 y1 y2 y3 y4 y5
         have HBB := Lib.hid (HB1.out.trans (hb2.mono (by omega)))
         have HP2 := Lib.hid hp2
         have hz2 : W.heap.size + 1 ≤ w2.heap.size := by have := hb2.size; omega
         clear hb2 hp2 q0)))
  go_quiet (fail)
  go_wp2
  all_goals
    go_ret
    first
      | exact ⟨false, rfl, (by intro h; cases h), below_drewN HBB.out _⟩
      | exact ⟨true, rfl, fun _ => HCF.out (by omega) (by omega) (by omega) (by omega) (by omega) (by omega) (by omega), below_drewN HBB.out _⟩
      | exact ⟨_, rfl, fun _ => HCF.out (by omega) (by omega) (by omega) (by omega) (by omega) (by omega) (by omega), below_drewN HBB.out _⟩
      | exact .inl ⟨rfl, below_drewN HBB.out _⟩
      | exact .inr ⟨rfl, HCF.out (by omega) (by omega) (by omega) (by omega) (by omega) (by omega) (by omega), below_drewN HBB.out _⟩
set_option maxHeartbeats 4000000 in
set_option maxRecDepth 100000 in
theorem contentFits_17 (B : Nat) (W : World) (u o : Int) (s : ByteArray) (n : Bool → Nat) (f : Bool → Nat → VT) (A : Bool → Option Addr) (c : Bool → Nat) (h : TV W B (.mk 17 u s o n f) A c) (hB : B ≤ W.heap.size) (hU : UT B W) : CFc W 17 u o s n f A c := by
  obtain ⟨hwf, hk⟩ := h.open_
  obtain ⟨hnc0, hcm0, hk0⟩ := hk false
  simp only [VT.n] at hnc0
  have hu0 : 0 ≤ u := hwf.2.2.1
  have hu1 : u ≤ 18446744073709551615 := hwf.2.2.2.1
  have hss : s.size ≤ maxLen := hwf.2.2.2.2.2.2
  have hET : @CFt.of 17 u o s n f = @CFt.of 17 u o s n f := rfl
  have HCF := Lib.hid (@CFt.of 17 u o s n f)
  have HT := Lib.hid h
  obtain ⟨w1, hw1⟩ : ∃ w1, w1 = W.alloc (.cells #[.int .i64 17, .int .u64 u, .string s, .slice (A false) (n false) (c false), .int .i64 o, .slice (A true) (n true) (c true)] 25) := ⟨_, rfl⟩
  have hp1 : Blk w1 W.heap.size 25 [.int .i64 17, .int .u64 u, .string s, .slice (A false) (n false) (c false), .int .i64 o, .slice (A true) (n true) (c true)] := by rw [hw1]; exact Blk.new W 25 [_, _, _, _, _, _]
  have hb1 : Below W.heap.size W w1 := by rw [hw1]; exact (Below.refl _ W).alloc (Nat.le_refl _) _
  have hz1 : w1.heap.size = W.heap.size + 1 := by rw [hw1]; simp
  have hfs := fixedSize_calls w1 17 (by omega)
  rw [show fsz 17 = 16 by decide] at hfs
  have q0 := hp1.cell 0
  simp only [List.getElem?_cons_zero] at q0
  have hsm : s.size ≤ 9223372036854775807 := by simp only [maxLen] at hss; omega
  have hnm : n false ≤ 9223372036854775807 := by simp only [maxLen] at hcm0; omega
  have HFS := Lib.hid hfs
  have HW1 := Lib.hid hw1
  have HP1 := Lib.hid hp1
  have HB1 := Lib.hid hb1
  have HU := Lib.hid hU
  have HSS := Lib.hid hss
  clear hET hwf hk hk0 hw1 hp1 hb1 hfs hU hss h
  rw [HW1.out] at q0
  unfold CFc vV
  simp only [VT.k, VT.u, VT.s, VT.o, VT.n]
  go_enter Tryd.func86, Tryd.ntmps86
  go_wp2_with (first
    | ((have HX := HFS)
       go_at_call 95
       go_must (
         (rw [← HW1.out])
         refine HX.out.mono ?_
         rintro e w2 ⟨rfl, hb2⟩
         have hp2 := HP1.out.below hb2 HP1.out.lt
         have y0 := hp2.cell 0
         have y1 := hp2.cell 1
         have y2 := hp2.cell 2
         have y3 := hp2.cell 3
         have y4 := hp2.cell 4
         have y5 := hp2.cell 5
         simp only [List.getElem?_cons_zero, List.getElem?_cons_succ] at y0 y1 y2 y3 y4 y5
         have HBB := Lib.hid (HB1.out.trans (hb2.mono (by omega)))
         have HP2 := Lib.hid hp2
         have hz2 : W.heap.size + 1 ≤ w2.heap.size := by have := hb2.size; omega
         clear hb2 hp2 q0)))
  all_goals
    go_ret
    first
      | exact ⟨false, rfl, (by intro h; cases h), HBB.out⟩
      | exact ⟨true, rfl, fun _ => HCF.out (by omega) (by omega) (by omega) (by omega) (by omega) (by omega) (by omega), HBB.out⟩
      | exact ⟨_, rfl, fun _ => HCF.out (by omega) (by omega) (by omega) (by omega) (by omega) (by omega) (by omega), HBB.out⟩
      | exact .inl ⟨rfl, HBB.out⟩
      | exact .inr ⟨rfl, HCF.out (by omega) (by omega) (by omega) (by omega) (by omega) (by omega) (by omega), HBB.out⟩
set_option maxHeartbeats 4000000 in
set_option maxRecDepth 100000 in
theorem contentFits_18 (B : Nat) (W : World) (u o : Int) (s : ByteArray) (n : Bool → Nat) (f : Bool → Nat → VT) (A : Bool → Option Addr) (c : Bool → Nat) (h : TV W B (.mk 18 u s o n f) A c) (hB : B ≤ W.heap.size) (hU : UT B W) : CFc W 18 u o s n f A c := by
  obtain ⟨hwf, hk⟩ := h.open_
  obtain ⟨hnc0, hcm0, hk0⟩ := hk false
  simp only [VT.n] at hnc0
  have hu0 : 0 ≤ u := hwf.2.2.1
  have hu1 : u ≤ 18446744073709551615 := hwf.2.2.2.1
  have hss : s.size ≤ maxLen := hwf.2.2.2.2.2.2
  have hET : @CFt.of 18 u o s n f = @CFt.of 18 u o s n f := rfl
  have HCF := Lib.hid (@CFt.of 18 u o s n f)
  have HT := Lib.hid h
  obtain ⟨w1, hw1⟩ : ∃ w1, w1 = W.alloc (.cells #[.int .i64 18, .int .u64 u, .string s, .slice (A false) (n false) (c false), .int .i64 o, .slice (A true) (n true) (c true)] 25) := ⟨_, rfl⟩
  have hp1 : Blk w1 W.heap.size 25 [.int .i64 18, .int .u64 u, .string s, .slice (A false) (n false) (c false), .int .i64 o, .slice (A true) (n true) (c true)] := by rw [hw1]; exact Blk.new W 25 [_, _, _, _, _, _]
  have hb1 : Below W.heap.size W w1 := by rw [hw1]; exact (Below.refl _ W).alloc (Nat.le_refl _) _
  have hz1 : w1.heap.size = W.heap.size + 1 := by rw [hw1]; simp
  have hfs := fixedSize_calls w1 18 (by omega)
  rw [show fsz 18 = -1 by decide] at hfs
  have q0 := hp1.cell 0
  simp only [List.getElem?_cons_zero] at q0
  have hsm : s.size ≤ 9223372036854775807 := by simp only [maxLen] at hss; omega
  have hnm : n false ≤ 9223372036854775807 := by simp only [maxLen] at hcm0; omega
  have HFS := Lib.hid hfs
  have HW1 := Lib.hid hw1
  have HP1 := Lib.hid hp1
  have HB1 := Lib.hid hb1
  have HU := Lib.hid hU
  have HSS := Lib.hid hss
  clear hET hwf hk hk0 hw1 hp1 hb1 hfs hU hss h
  rw [HW1.out] at q0
  unfold CFc vV
  simp only [VT.k, VT.u, VT.s, VT.o, VT.n]
  go_enter Tryd.func86, Tryd.ntmps86
  go_wp2_with (first
    | ((have HX := HFS)
       go_at_call 95
       go_must (
         (rw [← HW1.out])
         refine HX.out.mono ?_
         rintro e w2 ⟨rfl, hb2⟩
         have hp2 := HP1.out.below hb2 HP1.out.lt
         have y0 := hp2.cell 0
         have y1 := hp2.cell 1
         have y2 := hp2.cell 2
         have y3 := hp2.cell 3
         have y4 := hp2.cell 4
         have y5 := hp2.cell 5
         simp only [List.getElem?_cons_zero, List.getElem?_cons_succ] at y0 y1 y2 y3 y4 y5
         have HBB := Lib.hid (HB1.out.trans (hb2.mono (by omega)))
         have HP2 := Lib.hid hp2
         have hz2 : W.heap.size + 1 ≤ w2.heap.size := by have := hb2.size; omega
         clear hb2 hp2 q0)))
  all_goals
    go_ret
    first
      | exact ⟨false, rfl, (by intro h; cases h), HBB.out⟩
      | exact ⟨true, rfl, fun _ => HCF.out (by omega) (by omega) (by omega) (by omega) (by omega) (by omega) (by omega), HBB.out⟩
      | exact ⟨_, rfl, fun _ => HCF.out (by omega) (by omega) (by omega) (by omega) (by omega) (by omega) (by omega), HBB.out⟩
      | exact .inl ⟨rfl, HBB.out⟩
      | exact .inr ⟨rfl, HCF.out (by omega) (by omega) (by omega) (by omega) (by omega) (by omega) (by omega), HBB.out⟩
set_option maxHeartbeats 4000000 in
set_option maxRecDepth 100000 in
theorem contentFits_19 (B : Nat) (W : World) (u o : Int) (s : ByteArray) (n : Bool → Nat) (f : Bool → Nat → VT) (A : Bool → Option Addr) (c : Bool → Nat) (h : TV W B (.mk 19 u s o n f) A c) (hB : B ≤ W.heap.size) (hU : UT B W) : CFc W 19 u o s n f A c := by
  obtain ⟨hwf, hk⟩ := h.open_
  obtain ⟨hnc0, hcm0, hk0⟩ := hk false
  simp only [VT.n] at hnc0
  have hu0 : 0 ≤ u := hwf.2.2.1
  have hu1 : u ≤ 18446744073709551615 := hwf.2.2.2.1
  have hss : s.size ≤ maxLen := hwf.2.2.2.2.2.2
  have hET : @CFt.of 19 u o s n f = @CFt.of 19 u o s n f := rfl
  have HCF := Lib.hid (@CFt.of 19 u o s n f)
  have HT := Lib.hid h
  obtain ⟨w1, hw1⟩ : ∃ w1, w1 = W.alloc (.cells #[.int .i64 19, .int .u64 u, .string s, .slice (A false) (n false) (c false), .int .i64 o, .slice (A true) (n true) (c true)] 25) := ⟨_, rfl⟩
  have hp1 : Blk w1 W.heap.size 25 [.int .i64 19, .int .u64 u, .string s, .slice (A false) (n false) (c false), .int .i64 o, .slice (A true) (n true) (c true)] := by rw [hw1]; exact Blk.new W 25 [_, _, _, _, _, _]
  have hb1 : Below W.heap.size W w1 := by rw [hw1]; exact (Below.refl _ W).alloc (Nat.le_refl _) _
  have hz1 : w1.heap.size = W.heap.size + 1 := by rw [hw1]; simp
  have hfs := fixedSize_calls w1 19 (by omega)
  rw [show fsz 19 = -1 by decide] at hfs
  have q0 := hp1.cell 0
  simp only [List.getElem?_cons_zero] at q0
  have hsm : s.size ≤ 9223372036854775807 := by simp only [maxLen] at hss; omega
  have hnm : n false ≤ 9223372036854775807 := by simp only [maxLen] at hcm0; omega
  have HFS := Lib.hid hfs
  have HW1 := Lib.hid hw1
  have HP1 := Lib.hid hp1
  have HB1 := Lib.hid hb1
  have HU := Lib.hid hU
  have HSS := Lib.hid hss
  clear hET hwf hk hk0 hw1 hp1 hb1 hfs hU hss h
  rw [HW1.out] at q0
  unfold CFc vV
  simp only [VT.k, VT.u, VT.s, VT.o, VT.n]
  go_enter Tryd.func86, Tryd.ntmps86
  go_wp2_with (first
    | ((have HX := HFS)
       go_at_call 95
       go_must (
         (rw [← HW1.out])
         refine HX.out.mono ?_
         rintro e w2 ⟨rfl, hb2⟩
         have hp2 := HP1.out.below hb2 HP1.out.lt
         have y0 := hp2.cell 0
         have y1 := hp2.cell 1
         have y2 := hp2.cell 2
         have y3 := hp2.cell 3
         have y4 := hp2.cell 4
         have y5 := hp2.cell 5
         simp only [List.getElem?_cons_zero, List.getElem?_cons_succ] at y0 y1 y2 y3 y4 y5
         have HBB := Lib.hid (HB1.out.trans (hb2.mono (by omega)))
         have HP2 := Lib.hid hp2
         have hz2 : W.heap.size + 1 ≤ w2.heap.size := by have := hb2.size; omega
         clear hb2 hp2 q0))
    | ((have HUX := HU)
       go_at_call 92
       go_must (
         (refine Calls.mono (show Calls Tryd.prog 92 #[.string s] w2 _ from Any.utf8_ValidString Tryd.vs s w2 hsm (HU.out.below (HBB.out.mono hB)).1) ?_)
         rintro e w3 ⟨rfl, hb3⟩
         have HB3 := Lib.hid (HBB.out.trans (hb3.mono (by omega)))
         clear hb3)))
  all_goals
    go_ret
    first
      | exact ⟨false, rfl, (by intro h; cases h), HB3.out⟩
      | exact ⟨true, rfl, fun _ => HCF.out (by omega) (by omega) (by omega) (by omega) (by omega) (by omega) (by omega), HB3.out⟩
      | exact ⟨_, rfl, fun _ => HCF.out (by omega) (by omega) (by omega) (by omega) (by omega) (by omega) (by omega), HB3.out⟩
      | exact .inl ⟨rfl, HB3.out⟩
      | exact .inr ⟨rfl, HCF.out (by omega) (by omega) (by omega) (by omega) (by omega) (by omega) (by omega), HB3.out⟩
set_option maxHeartbeats 4000000 in
set_option maxRecDepth 100000 in
theorem contentFits_20 (B : Nat) (W : World) (u o : Int) (s : ByteArray) (n : Bool → Nat) (f : Bool → Nat → VT) (A : Bool → Option Addr) (c : Bool → Nat) (h : TV W B (.mk 20 u s o n f) A c) (hB : B ≤ W.heap.size) (hU : UT B W) : CFc W 20 u o s n f A c := by
  obtain ⟨hwf, hk⟩ := h.open_
  obtain ⟨hnc0, hcm0, hk0⟩ := hk false
  simp only [VT.n] at hnc0
  have hu0 : 0 ≤ u := hwf.2.2.1
  have hu1 : u ≤ 18446744073709551615 := hwf.2.2.2.1
  have hss : s.size ≤ maxLen := hwf.2.2.2.2.2.2
  have hET : @CFt.of 20 u o s n f = @CFt.of 20 u o s n f := rfl
  have HCF := Lib.hid (@CFt.of 20 u o s n f)
  have HT := Lib.hid h
  obtain ⟨w1, hw1⟩ : ∃ w1, w1 = W.alloc (.cells #[.int .i64 20, .int .u64 u, .string s, .slice (A false) (n false) (c false), .int .i64 o, .slice (A true) (n true) (c true)] 25) := ⟨_, rfl⟩
  have hp1 : Blk w1 W.heap.size 25 [.int .i64 20, .int .u64 u, .string s, .slice (A false) (n false) (c false), .int .i64 o, .slice (A true) (n true) (c true)] := by rw [hw1]; exact Blk.new W 25 [_, _, _, _, _, _]
  have hb1 : Below W.heap.size W w1 := by rw [hw1]; exact (Below.refl _ W).alloc (Nat.le_refl _) _
  have hz1 : w1.heap.size = W.heap.size + 1 := by rw [hw1]; simp
  have hfs := fixedSize_calls w1 20 (by omega)
  rw [show fsz 20 = -1 by decide] at hfs
  have q0 := hp1.cell 0
  simp only [List.getElem?_cons_zero] at q0
  have hsm : s.size ≤ 9223372036854775807 := by simp only [maxLen] at hss; omega
  have hnm : n false ≤ 9223372036854775807 := by simp only [maxLen] at hcm0; omega
  have HFS := Lib.hid hfs
  have HW1 := Lib.hid hw1
  have HP1 := Lib.hid hp1
  have HB1 := Lib.hid hb1
  have HU := Lib.hid hU
  have HSS := Lib.hid hss
  clear hET hwf hk hk0 hw1 hp1 hb1 hfs hU hss h
  rw [HW1.out] at q0
  unfold CFc vV
  simp only [VT.k, VT.u, VT.s, VT.o, VT.n]
  go_enter Tryd.func86, Tryd.ntmps86
  go_wp2_with (first
    | ((have HX := HFS)
       go_at_call 95
       go_must (
         (rw [← HW1.out])
         refine HX.out.mono ?_
         rintro e w2 ⟨rfl, hb2⟩
         have hp2 := HP1.out.below hb2 HP1.out.lt
         have y0 := hp2.cell 0
         have y1 := hp2.cell 1
         have y2 := hp2.cell 2
         have y3 := hp2.cell 3
         have y4 := hp2.cell 4
         have y5 := hp2.cell 5
         simp only [List.getElem?_cons_zero, List.getElem?_cons_succ] at y0 y1 y2 y3 y4 y5
         have HBB := Lib.hid (HB1.out.trans (hb2.mono (by omega)))
         have HP2 := Lib.hid hp2
         have hz2 : W.heap.size + 1 ≤ w2.heap.size := by have := hb2.size; omega
         clear hb2 hp2 q0))
    | ((have HUX := HU)
       go_at_call 96
       go_must (
         (refine (asciiOnly_calls w2 s HSS.out).mono ?_)
         rintro e w3 ⟨b3, rfl, rfl⟩)))
  all_goals
    go_ret
    first
      | exact ⟨false, rfl, (by intro h; cases h), HBB.out⟩
      | exact ⟨true, rfl, fun _ => HCF.out (by omega) (by omega) (by omega) (by omega) (by omega) (by omega) (by omega), HBB.out⟩
      | exact ⟨_, rfl, fun _ => HCF.out (by omega) (by omega) (by omega) (by omega) (by omega) (by omega) (by omega), HBB.out⟩
      | exact .inl ⟨rfl, HBB.out⟩
      | exact .inr ⟨rfl, HCF.out (by omega) (by omega) (by omega) (by omega) (by omega) (by omega) (by omega), HBB.out⟩
set_option maxHeartbeats 4000000 in
set_option maxRecDepth 100000 in
theorem contentFits_21 (B : Nat) (W : World) (u o : Int) (s : ByteArray) (n : Bool → Nat) (f : Bool → Nat → VT) (A : Bool → Option Addr) (c : Bool → Nat) (h : TV W B (.mk 21 u s o n f) A c) (hB : B ≤ W.heap.size) (hU : UT B W) : CFc W 21 u o s n f A c := by
  obtain ⟨hwf, hk⟩ := h.open_
  obtain ⟨hnc0, hcm0, hk0⟩ := hk false
  simp only [VT.n] at hnc0
  have hu0 : 0 ≤ u := hwf.2.2.1
  have hu1 : u ≤ 18446744073709551615 := hwf.2.2.2.1
  have hss : s.size ≤ maxLen := hwf.2.2.2.2.2.2
  have hET : @CFt.of 21 u o s n f = @CFt.of 21 u o s n f := rfl
  have HCF := Lib.hid (@CFt.of 21 u o s n f)
  have HT := Lib.hid h
  obtain ⟨w1, hw1⟩ : ∃ w1, w1 = W.alloc (.cells #[.int .i64 21, .int .u64 u, .string s, .slice (A false) (n false) (c false), .int .i64 o, .slice (A true) (n true) (c true)] 25) := ⟨_, rfl⟩
  have hp1 : Blk w1 W.heap.size 25 [.int .i64 21, .int .u64 u, .string s, .slice (A false) (n false) (c false), .int .i64 o, .slice (A true) (n true) (c true)] := by rw [hw1]; exact Blk.new W 25 [_, _, _, _, _, _]
  have hb1 : Below W.heap.size W w1 := by rw [hw1]; exact (Below.refl _ W).alloc (Nat.le_refl _) _
  have hz1 : w1.heap.size = W.heap.size + 1 := by rw [hw1]; simp
  have hfs := fixedSize_calls w1 21 (by omega)
  rw [show fsz 21 = -1 by decide] at hfs
  have q0 := hp1.cell 0
  simp only [List.getElem?_cons_zero] at q0
  have hsm : s.size ≤ 9223372036854775807 := by simp only [maxLen] at hss; omega
  have hnm : n false ≤ 9223372036854775807 := by simp only [maxLen] at hcm0; omega
  have HFS := Lib.hid hfs
  have HW1 := Lib.hid hw1
  have HP1 := Lib.hid hp1
  have HB1 := Lib.hid hb1
  have HU := Lib.hid hU
  have HSS := Lib.hid hss
  clear hET hwf hk hk0 hw1 hp1 hb1 hfs hU hss h
  rw [HW1.out] at q0
  unfold CFc vV
  simp only [VT.k, VT.u, VT.s, VT.o, VT.n]
  go_enter Tryd.func86, Tryd.ntmps86
  go_wp2_with (first
    | ((have HX := HFS)
       go_at_call 95
       go_must (
         (rw [← HW1.out])
         refine HX.out.mono ?_
         rintro e w2 ⟨rfl, hb2⟩
         have hp2 := HP1.out.below hb2 HP1.out.lt
         have y0 := hp2.cell 0
         have y1 := hp2.cell 1
         have y2 := hp2.cell 2
         have y3 := hp2.cell 3
         have y4 := hp2.cell 4
         have y5 := hp2.cell 5
         simp only [List.getElem?_cons_zero, List.getElem?_cons_succ] at y0 y1 y2 y3 y4 y5
         have HBB := Lib.hid (HB1.out.trans (hb2.mono (by omega)))
         have HP2 := Lib.hid hp2
         have hz2 : W.heap.size + 1 ≤ w2.heap.size := by have := hb2.size; omega
         clear hb2 hp2 q0)))
  all_goals
    go_ret
    first
      | exact ⟨false, rfl, (by intro h; cases h), HBB.out⟩
      | exact ⟨true, rfl, fun _ => HCF.out (by omega) (by omega) (by omega) (by omega) (by omega) (by omega) (by omega), HBB.out⟩
      | exact ⟨_, rfl, fun _ => HCF.out (by omega) (by omega) (by omega) (by omega) (by omega) (by omega) (by omega), HBB.out⟩
      | exact .inl ⟨rfl, HBB.out⟩
      | exact .inr ⟨rfl, HCF.out (by omega) (by omega) (by omega) (by omega) (by omega) (by omega) (by omega), HBB.out⟩
set_option maxHeartbeats 4000000 in
set_option maxRecDepth 100000 in
theorem contentFits_22 (B : Nat) (W : World) (u o : Int) (s : ByteArray) (n : Bool → Nat) (f : Bool → Nat → VT) (A : Bool → Option Addr) (c : Bool → Nat) (h : TV W B (.mk 22 u s o n f) A c) (hB : B ≤ W.heap.size) (hU : UT B W) : CFc W 22 u o s n f A c := by
  obtain ⟨hwf, hk⟩ := h.open_
  obtain ⟨hnc0, hcm0, hk0⟩ := hk false
  simp only [VT.n] at hnc0
  have hu0 : 0 ≤ u := hwf.2.2.1
  have hu1 : u ≤ 18446744073709551615 := hwf.2.2.2.1
  have hss : s.size ≤ maxLen := hwf.2.2.2.2.2.2
  have hET : @CFt.of 22 u o s n f = @CFt.of 22 u o s n f := rfl
  have HCF := Lib.hid (@CFt.of 22 u o s n f)
  have HT := Lib.hid h
  obtain ⟨w1, hw1⟩ : ∃ w1, w1 = W.alloc (.cells #[.int .i64 22, .int .u64 u, .string s, .slice (A false) (n false) (c false), .int .i64 o, .slice (A true) (n true) (c true)] 25) := ⟨_, rfl⟩
  have hp1 : Blk w1 W.heap.size 25 [.int .i64 22, .int .u64 u, .string s, .slice (A false) (n false) (c false), .int .i64 o, .slice (A true) (n true) (c true)] := by rw [hw1]; exact Blk.new W 25 [_, _, _, _, _, _]
  have hb1 : Below W.heap.size W w1 := by rw [hw1]; exact (Below.refl _ W).alloc (Nat.le_refl _) _
  have hz1 : w1.heap.size = W.heap.size + 1 := by rw [hw1]; simp
  have hfs := fixedSize_calls w1 22 (by omega)
  rw [show fsz 22 = -1 by decide] at hfs
  have q0 := hp1.cell 0
  simp only [List.getElem?_cons_zero] at q0
  have hsm : s.size ≤ 9223372036854775807 := by simp only [maxLen] at hss; omega
  have hnm : n false ≤ 9223372036854775807 := by simp only [maxLen] at hcm0; omega
  have HFS := Lib.hid hfs
  have HW1 := Lib.hid hw1
  have HP1 := Lib.hid hp1
  have HB1 := Lib.hid hb1
  have HU := Lib.hid hU
  have HSS := Lib.hid hss
  clear hET hwf hk hk0 hw1 hp1 hb1 hfs hU hss h
  rw [HW1.out] at q0
  unfold CFc vV
  simp only [VT.k, VT.u, VT.s, VT.o, VT.n]
  go_enter Tryd.func86, Tryd.ntmps86
  go_wp2_with (first
    | ((have HX := HFS)
       go_at_call 95
       go_must (
         (rw [← HW1.out])
         refine HX.out.mono ?_
         rintro e w2 ⟨rfl, hb2⟩
         have hp2 := HP1.out.below hb2 HP1.out.lt
         have y0 := hp2.cell 0
         have y1 := hp2.cell 1
         have y2 := hp2.cell 2
         have y3 := hp2.cell 3
         have y4 := hp2.cell 4
         have y5 := hp2.cell 5
         simp only [List.getElem?_cons_zero, List.getElem?_cons_succ] at y0 y1 y2 y3 y4 y5
         have HBB := Lib.hid (HB1.out.trans (hb2.mono (by omega)))
         have HP2 := Lib.hid hp2
         have hz2 : W.heap.size + 1 ≤ w2.heap.size := by have := hb2.size; omega
         clear hb2 hp2 q0)))
  all_goals
    go_ret
    first
      | exact ⟨false, rfl, (by intro h; cases h), HBB.out⟩
      | exact ⟨true, rfl, fun _ => HCF.out (by omega) (by omega) (by omega) (by omega) (by omega) (by omega) (by omega), HBB.out⟩
      | exact ⟨_, rfl, fun _ => HCF.out (by omega) (by omega) (by omega) (by omega) (by omega) (by omega) (by omega), HBB.out⟩
      | exact .inl ⟨rfl, HBB.out⟩
      | exact .inr ⟨rfl, HCF.out (by omega) (by omega) (by omega) (by omega) (by omega) (by omega) (by omega), HBB.out⟩
set_option maxHeartbeats 4000000 in
set_option maxRecDepth 100000 in
theorem contentFits_23 (B : Nat) (W : World) (u o : Int) (s : ByteArray) (n : Bool → Nat) (f : Bool → Nat → VT) (A : Bool → Option Addr) (c : Bool → Nat) (h : TV W B (.mk 23 u s o n f) A c) (hB : B ≤ W.heap.size) (hU : UT B W) : CFc W 23 u o s n f A c := by
  obtain ⟨hwf, hk⟩ := h.open_
  obtain ⟨hnc0, hcm0, hk0⟩ := hk false
  simp only [VT.n] at hnc0
  have hu0 : 0 ≤ u := hwf.2.2.1
  have hu1 : u ≤ 18446744073709551615 := hwf.2.2.2.1
  have hss : s.size ≤ maxLen := hwf.2.2.2.2.2.2
  have hET : @CFt.of 23 u o s n f = @CFt.of 23 u o s n f := rfl
  have HCF := Lib.hid (@CFt.of 23 u o s n f)
  have HT := Lib.hid h
  obtain ⟨w1, hw1⟩ : ∃ w1, w1 = W.alloc (.cells #[.int .i64 23, .int .u64 u, .string s, .slice (A false) (n false) (c false), .int .i64 o, .slice (A true) (n true) (c true)] 25) := ⟨_, rfl⟩
  have hp1 : Blk w1 W.heap.size 25 [.int .i64 23, .int .u64 u, .string s, .slice (A false) (n false) (c false), .int .i64 o, .slice (A true) (n true) (c true)] := by rw [hw1]; exact Blk.new W 25 [_, _, _, _, _, _]
  have hb1 : Below W.heap.size W w1 := by rw [hw1]; exact (Below.refl _ W).alloc (Nat.le_refl _) _
  have hz1 : w1.heap.size = W.heap.size + 1 := by rw [hw1]; simp
  have hfs := fixedSize_calls w1 23 (by omega)
  rw [show fsz 23 = -1 by decide] at hfs
  have q0 := hp1.cell 0
  simp only [List.getElem?_cons_zero] at q0
  have hsm : s.size ≤ 9223372036854775807 := by simp only [maxLen] at hss; omega
  have hnm : n false ≤ 9223372036854775807 := by simp only [maxLen] at hcm0; omega
  have HFS := Lib.hid hfs
  have HW1 := Lib.hid hw1
  have HP1 := Lib.hid hp1
  have HB1 := Lib.hid hb1
  have HU := Lib.hid hU
  have HSS := Lib.hid hss
  clear hET hwf hk hk0 hw1 hp1 hb1 hfs hU hss h
  rw [HW1.out] at q0
  unfold CFc vV
  simp only [VT.k, VT.u, VT.s, VT.o, VT.n]
  go_enter Tryd.func86, Tryd.ntmps86
  go_wp2_with (first
    | ((have HX := HFS)
       go_at_call 95
       go_must (
         (rw [← HW1.out])
         refine HX.out.mono ?_
         rintro e w2 ⟨rfl, hb2⟩
         have hp2 := HP1.out.below hb2 HP1.out.lt
         have y0 := hp2.cell 0
         have y1 := hp2.cell 1
         have y2 := hp2.cell 2
         have y3 := hp2.cell 3
         have y4 := hp2.cell 4
         have y5 := hp2.cell 5
         simp only [List.getElem?_cons_zero, List.getElem?_cons_succ] at y0 y1 y2 y3 y4 y5
         have HBB := Lib.hid (HB1.out.trans (hb2.mono (by omega)))
         have HP2 := Lib.hid hp2
         have hz2 : W.heap.size + 1 ≤ w2.heap.size := by have := hb2.size; omega
         clear hb2 hp2 q0))
    | ((have HUX := HU)
       go_at_call 97
       go_must (
         (have hcall := arrayFits_calls B w2 23 u o s n f A c (TV.below (HBB.out.mono hB) _ _ _ HT.out) (by omega))
         unfold vV at hcall
         simp only [VT.k, VT.u, VT.s, VT.o, VT.n] at hcall
         refine hcall.mono ?_
         rintro e w3 ⟨b3, rfl, hf3, hb3⟩
         have HB3 := Lib.hid (HBB.out.trans (hb3.mono (by omega)))
         have HF3 := Lib.hid hf3
         clear hb3 hf3 hcall)))
  all_goals
    go_ret
    exact ⟨b3, rfl, fun h => HCF.out (by omega) (by omega) (by omega) (by omega) (by omega) (by omega) (fun _ => HF3.out h), HB3.out⟩
theorem contentFits_calls (B : Nat) (W : World) (k u o : Int) (s : ByteArray) (n : Bool → Nat) (f : Bool → Nat → VT) (A : Bool → Option Addr) (c : Bool → Nat) (hk0 : 0 ≤ k) (hk1 : k < 24) (h : TV W B (.mk k u s o n f) A c) (hB : B ≤ W.heap.size) (hU : UT B W) : CFc W k u o s n f A c := by
  rcases (show k = 0 ∨ k = 1 ∨ k = 2 ∨ k = 3 ∨ k = 4 ∨ k = 5 ∨ k = 6 ∨ k = 7 ∨ k = 8 ∨ k = 9 ∨ k = 10 ∨ k = 11 ∨ k = 12 ∨ k = 13 ∨ k = 14 ∨ k = 15 ∨ k = 16 ∨ k = 17 ∨ k = 18 ∨ k = 19 ∨ k = 20 ∨ k = 21 ∨ k = 22 ∨ k = 23 by omega) with rfl | rfl | rfl | rfl | rfl | rfl | rfl | rfl | rfl | rfl | rfl | rfl | rfl | rfl | rfl | rfl | rfl | rfl | rfl | rfl | rfl | rfl | rfl | rfl
  · exact contentFits_0 B W u o s n f A c h hB hU
  · exact contentFits_1 B W u o s n f A c h hB hU
  · exact contentFits_2 B W u o s n f A c h hB hU
  · exact contentFits_3 B W u o s n f A c h hB hU
  · exact contentFits_4 B W u o s n f A c h hB hU
  · exact contentFits_5 B W u o s n f A c h hB hU
  · exact contentFits_6 B W u o s n f A c h hB hU
  · exact contentFits_7 B W u o s n f A c h hB hU
  · exact contentFits_8 B W u o s n f A c h hB hU
  · exact contentFits_9 B W u o s n f A c h hB hU
  · exact contentFits_10 B W u o s n f A c h hB hU
  · exact contentFits_11 B W u o s n f A c h hB hU
  · exact contentFits_12 B W u o s n f A c h hB hU
  · exact contentFits_13 B W u o s n f A c h hB hU
  · exact contentFits_14 B W u o s n f A c h hB hU
  · exact contentFits_15 B W u o s n f A c h hB hU
  · exact contentFits_16 B W u o s n f A c h hB hU
  · exact contentFits_17 B W u o s n f A c h hB hU
  · exact contentFits_18 B W u o s n f A c h hB hU
  · exact contentFits_19 B W u o s n f A c h hB hU
  · exact contentFits_20 B W u o s n f A c h hB hU
  · exact contentFits_21 B W u o s n f A c h hB hU
  · exact contentFits_22 B W u o s n f A c h hB hU
  · exact contentFits_23 B W u o s n f A c h hB hU
end Go.Proofs.YtjjhckbidcdkcaaDoor
