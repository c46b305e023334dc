/- spec.pieces at the kinds of sixteen bytes. PRINTED by wip/genif.py. -/
import Derived.Test.YtjjhckbidcdkcaaDoorIe
namespace Go.Proofs.YtjjhckbidcdkcaaDoor
open Go.RowKit
set_option linter.unusedVariables false

theorem pcPost_14 (W wx : World) (gf g : Nat) (st : Int) (sh : Bool) (u o : Int) (s : ByteArray) (n : Bool → Nat) (f : Bool → Nat → VT) (v : Value) (hsz : s.size ≤ 131072) (hb : Below W.heap.size W wx) (hf : Blk wx gf 77 [.int .u64 st, .bool sh]) (ho : OwnB wx W.heap.size (txtL s) v) (hg : wx.heap.size = g) :
    PCPost gf sh (.mk 14 u s o n f) W (.returned (.slice (some ⟨g, 0, none⟩) 1 1)) (wx.alloc (.cells #[.int .i64 148, v] 118)) := by
  subst hg
  have hrow := pcsW_one wx W.heap.size (148, txtL s) v hb.size ho
  refine ⟨_, [(148, txtL s)], st, rfl, ?_, hrow, hf.alloc _, grown_of_below (hb.alloc hb.size _) _⟩
  refine ⟨⟨_, List.mem_singleton.2 rfl, rfl⟩, by simp, fun p hp => ?_, pcsX_no (by simp [VT.k]) (by simp [VT.k]) (by simp [VT.k]) (by simp [VT.k]), fun e => absurd e (by simp [VT.k])⟩
  rw [List.mem_singleton.1 hp]
  have := cntK_pos (.mk 14 u s o n f)
  exact ⟨by simp [codesK, codesL, VT.k], isB_txt s, by simp only [txtL_length]; omega⟩
theorem pcPost_17 (W wx : World) (gf g : Nat) (st : Int) (sh : Bool) (u o : Int) (s : ByteArray) (n : Bool → Nat) (f : Bool → Nat → VT) (v : Value) (hsz : s.size ≤ 131072) (hb : Below W.heap.size W wx) (hf : Blk wx gf 77 [.int .u64 st, .bool sh]) (ho : OwnB wx W.heap.size (txtL s) v) (hg : wx.heap.size = g) :
    PCPost gf sh (.mk 17 u s o n f) W (.returned (.slice (some ⟨g, 0, none⟩) 1 1)) (wx.alloc (.cells #[.int .i64 152, v] 118)) := by
  subst hg
  have hrow := pcsW_one wx W.heap.size (152, txtL s) v hb.size ho
  refine ⟨_, [(152, txtL s)], st, rfl, ?_, hrow, hf.alloc _, grown_of_below (hb.alloc hb.size _) _⟩
  refine ⟨⟨_, List.mem_singleton.2 rfl, rfl⟩, by simp, fun p hp => ?_, pcsX_no (by simp [VT.k]) (by simp [VT.k]) (by simp [VT.k]) (by simp [VT.k]), fun e => absurd e (by simp [VT.k])⟩
  rw [List.mem_singleton.1 hp]
  have := cntK_pos (.mk 17 u s o n f)
  exact ⟨by simp [codesK, codesL, VT.k], isB_txt s, by simp only [txtL_length]; omega⟩
set_option maxHeartbeats 4000000 in
set_option maxRecDepth 100000 in
theorem pieces_14 (B gf : Nat) (sh : Bool) (u o : Int) (s : ByteArray) (n : Bool → Nat) (f : Bool → Nat → VT) (hgf : B ≤ gf) (hsz : s.size ≤ 131072) : PC B gf sh (.mk 14 u s o n f) := by
  intro W st A c h hB hb
  obtain ⟨hwf, hk⟩ := h.open_
  have hu0 : 0 ≤ u := hwf.2.2.1
  have hu1 : u ≤ 18446744073709551615 := hwf.2.2.2.1
  have HT := Lib.hid h
  clear h hk hwf
  unfold vV
  simp only [VT.k, VT.u, VT.s, VT.o, VT.n]
  have HPG := Lib.hid (@Iff.rfl (PCPost gf sh (.mk 14 u s o n f) W = PCPost gf sh (.mk 14 u s o n f) W))
  clear HPG
  generalize A false = A0 at *
  generalize A true = A1 at *
  generalize c false = c0 at *
  generalize c true = c1 at *
  obtain ⟨n0, hn0⟩ : ∃ x, n false = x := ⟨_, rfl⟩
  obtain ⟨n1, hn1⟩ : ∃ x, n true = x := ⟨_, rfl⟩
  rw [hn0, hn1]
  obtain ⟨w1, hw1⟩ : ∃ w1, w1 = W.alloc (.cells #[.int .i64 14, .int .u64 u, .string s, .slice A0 n0 c0, .int .i64 o, .slice A1 n1 c1] 25) := ⟨_, rfl⟩
  have hp1 : Blk w1 W.heap.size 25 [.int .i64 14, .int .u64 u, .string s, .slice A0 n0 c0, .int .i64 o, .slice A1 n1 c1] := by rw [hw1]; exact Blk.new W 25 [.int .i64 14, .int .u64 u, .string s, .slice A0 n0 c0, .int .i64 o, .slice A1 n1 c1]
  have hb1 : Below W.heap.size W w1 := by rw [hw1]; exact (Below.refl _ W).alloc (Nat.le_refl _) _
  have hf1 : Blk w1 gf 77 [.int .u64 st, .bool sh] := by rw [hw1]; exact hb.alloc _
  have hz1 : w1.heap.size = W.heap.size + 1 := by rw [hw1]; simp
  have v0 := hp1.cell 0
  have v1 := hp1.cell 1
  have v2 := hp1.cell 2
  have v3 := hp1.cell 3
  simp only [List.getElem?_cons_zero, List.getElem?_cons_succ] at v0 v1 v2 v3
  have HW1 := Lib.hid hw1
  have HP1 := Lib.hid hp1
  have HB1 := Lib.hid hb1
  have HF1 := Lib.hid hf1
  have HN0 := Lib.hid hn0
  have HZ1 := Lib.hid hz1
  clear hw1 hp1 hb1 hf1 hb hn0 hn1 hz1
  have hcv : ∀ w : World, (convert 9 26 (.string s)).run Tryd.prog w = .ok (.slice (some ⟨w.heap.size, 0, none⟩) s.size (grownCap w s.size 0 5)) (Lib.bytesWorld w 5 s) := fun w => Lib.run_convert_string_bytes (P := Tryd.prog) w 9 26 5 s Tryd.underlying9 Tryd.underlying26 Tryd.underlying5
  have hzl : W.heap.size < w1.heap.size := HP1.out.lt
  have v0b : (Lib.bytesWorld w1.drew 5 s).cell? ⟨W.heap.size, 0, none⟩ = some (.int .i64 14) := (Lib.bytesWorld_old w1.drew 5 s ⟨W.heap.size, 0, none⟩ hzl).trans v0
  go_enter Tryd.func64, Tryd.ntmps64
  go_upto_region 1 with (fail)
  rw [← HW1.out]
  go_wp2
  go_region_law (
    (go_simp
     go_at_call 87
     (refine (coded_calls _ 14 (by omega)).mono ?_)
     rintro e wc ⟨rfl, hbc⟩
     rw [show cod 14 = 148 by decide]
     have HBW : Hid (Below w1.heap.size w1 wc) := by
       first
         | exact ((Below.refl _ w1).drew).trans hbc
         | exact (((Below.refl _ w1).drew).trans (below_bytes w1.drew s)).trans (hbc.mono (by rw [Lib.bytesWorld_size]; simp))
     have hpc := HP1.out.below HBW.out HP1.out.lt
     have x2 := hpc.cell 2
     simp only [List.getElem?_cons_zero, List.getElem?_cons_succ] at x2
     have HBC := Lib.hid hbc
     clear hbc hpc))
  all_goals
    dsimp only [Act.put, List.getElem_toArray, List.getElem_cons_succ, List.getElem_cons_zero, List.getElem_cons]
    go_frame
    go_wp2
    go_ret
    first
      | exact pcPost_14 W (Lib.bytesWorld wc 5 s) gf _ st sh u o s n f _ hsz (HB1.out.trans ((HBW.out.trans (below_bytes wc s |>.mono HBW.out.size)).mono (by omega))) ((HF1.out.below HBW.out HF1.out.lt).below (below_bytes wc s) (HF1.out.below HBW.out HF1.out.lt).lt) (ownB_text wc W.heap.size s (by have := HBW.out.size; omega)) (by rw [Lib.bytesWorld_size])
      | exact pcPost_14 W wc gf _ st sh u o s n f _ hsz (HB1.out.trans (HBW.out.mono (by omega))) (HF1.out.below HBW.out HF1.out.lt) ((ownB_text w1.drew W.heap.size s (by simp; omega)).below HBC.out) rfl
set_option maxHeartbeats 4000000 in
set_option maxRecDepth 100000 in
theorem pieces_17 (B gf : Nat) (sh : Bool) (u o : Int) (s : ByteArray) (n : Bool → Nat) (f : Bool → Nat → VT) (hgf : B ≤ gf) (hsz : s.size ≤ 131072) : PC B gf sh (.mk 17 u s o n f) := by
  intro W st A c h hB hb
  obtain ⟨hwf, hk⟩ := h.open_
  have hu0 : 0 ≤ u := hwf.2.2.1
  have hu1 : u ≤ 18446744073709551615 := hwf.2.2.2.1
  have HT := Lib.hid h
  clear h hk hwf
  unfold vV
  simp only [VT.k, VT.u, VT.s, VT.o, VT.n]
  have HPG := Lib.hid (@Iff.rfl (PCPost gf sh (.mk 17 u s o n f) W = PCPost gf sh (.mk 17 u s o n f) W))
  clear HPG
  generalize A false = A0 at *
  generalize A true = A1 at *
  generalize c false = c0 at *
  generalize c true = c1 at *
  obtain ⟨n0, hn0⟩ : ∃ x, n false = x := ⟨_, rfl⟩
  obtain ⟨n1, hn1⟩ : ∃ x, n true = x := ⟨_, rfl⟩
  rw [hn0, hn1]
  obtain ⟨w1, hw1⟩ : ∃ w1, w1 = W.alloc (.cells #[.int .i64 17, .int .u64 u, .string s, .slice A0 n0 c0, .int .i64 o, .slice A1 n1 c1] 25) := ⟨_, rfl⟩
  have hp1 : Blk w1 W.heap.size 25 [.int .i64 17, .int .u64 u, .string s, .slice A0 n0 c0, .int .i64 o, .slice A1 n1 c1] := by rw [hw1]; exact Blk.new W 25 [.int .i64 17, .int .u64 u, .string s, .slice A0 n0 c0, .int .i64 o, .slice A1 n1 c1]
  have hb1 : Below W.heap.size W w1 := by rw [hw1]; exact (Below.refl _ W).alloc (Nat.le_refl _) _
  have hf1 : Blk w1 gf 77 [.int .u64 st, .bool sh] := by rw [hw1]; exact hb.alloc _
  have hz1 : w1.heap.size = W.heap.size + 1 := by rw [hw1]; simp
  have v0 := hp1.cell 0
  have v1 := hp1.cell 1
  have v2 := hp1.cell 2
  have v3 := hp1.cell 3
  simp only [List.getElem?_cons_zero, List.getElem?_cons_succ] at v0 v1 v2 v3
  have HW1 := Lib.hid hw1
  have HP1 := Lib.hid hp1
  have HB1 := Lib.hid hb1
  have HF1 := Lib.hid hf1
  have HN0 := Lib.hid hn0
  have HZ1 := Lib.hid hz1
  clear hw1 hp1 hb1 hf1 hb hn0 hn1 hz1
  have hcv : ∀ w : World, (convert 9 26 (.string s)).run Tryd.prog w = .ok (.slice (some ⟨w.heap.size, 0, none⟩) s.size (grownCap w s.size 0 5)) (Lib.bytesWorld w 5 s) := fun w => Lib.run_convert_string_bytes (P := Tryd.prog) w 9 26 5 s Tryd.underlying9 Tryd.underlying26 Tryd.underlying5
  have hzl : W.heap.size < w1.heap.size := HP1.out.lt
  have v0b : (Lib.bytesWorld w1.drew 5 s).cell? ⟨W.heap.size, 0, none⟩ = some (.int .i64 17) := (Lib.bytesWorld_old w1.drew 5 s ⟨W.heap.size, 0, none⟩ hzl).trans v0
  go_enter Tryd.func64, Tryd.ntmps64
  go_upto_region 1 with (fail)
  rw [← HW1.out]
  go_wp2
  go_region_law (
    (go_simp
     go_at_call 87
     (refine (coded_calls _ 17 (by omega)).mono ?_)
     rintro e wc ⟨rfl, hbc⟩
     rw [show cod 17 = 152 by decide]
     have HBW : Hid (Below w1.heap.size w1 wc) := by
       first
         | exact ((Below.refl _ w1).drew).trans hbc
         | exact (((Below.refl _ w1).drew).trans (below_bytes w1.drew s)).trans (hbc.mono (by rw [Lib.bytesWorld_size]; simp))
     have hpc := HP1.out.below HBW.out HP1.out.lt
     have x2 := hpc.cell 2
     simp only [List.getElem?_cons_zero, List.getElem?_cons_succ] at x2
     have HBC := Lib.hid hbc
     clear hbc hpc))
  all_goals
    dsimp only [Act.put, List.getElem_toArray, List.getElem_cons_succ, List.getElem_cons_zero, List.getElem_cons]
    go_frame
    go_wp2
    go_ret
    first
      | exact pcPost_17 W (Lib.bytesWorld wc 5 s) gf _ st sh u o s n f _ hsz (HB1.out.trans ((HBW.out.trans (below_bytes wc s |>.mono HBW.out.size)).mono (by omega))) ((HF1.out.below HBW.out HF1.out.lt).below (below_bytes wc s) (HF1.out.below HBW.out HF1.out.lt).lt) (ownB_text wc W.heap.size s (by have := HBW.out.size; omega)) (by rw [Lib.bytesWorld_size])
      | exact pcPost_17 W wc gf _ st sh u o s n f _ hsz (HB1.out.trans (HBW.out.mono (by omega))) (HF1.out.below HBW.out HF1.out.lt) ((ownB_text w1.drew W.heap.size s (by simp; omega)).below HBC.out) rfl
end Go.Proofs.YtjjhckbidcdkcaaDoor
