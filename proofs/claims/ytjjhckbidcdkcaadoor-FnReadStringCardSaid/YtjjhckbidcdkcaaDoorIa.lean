/- spec.pieces at nulls, booleans, texts. PRINTED by wip/genia.py. -/
import Derived.Lib.ConvBytes
import Derived.Deep.RegionLawGrows
import Derived.Maps.RangeWalk
import Derived.Test.YtjjhckbidcdkcaaDoorHw
namespace Go.Proofs.YtjjhckbidcdkcaaDoor
open Go.RowKit
set_option linter.unusedVariables false

theorem grown_of_below {W W' : World} (h : Below W.heap.size W W') (row : Option Nat) : W.grownBy W' row := ⟨h.os, h.tape, h.output, h.size, fun k hk _ => h.block k hk⟩
theorem pcsX_no {T : VT} {L : List Pce} (h : ¬ (2 ≤ T.k ∧ T.k ≤ 16 ∧ T.k ≠ 14)) (h18 : T.k ≠ 18) (h19 : T.k ≠ 19) (h20 : T.k ≠ 20) : PcsX T L :=
  ⟨fun a b c => absurd ⟨a, b, c⟩ h, fun e => absurd e h18, fun e => absurd e h19, fun e => absurd e h20⟩
theorem cntK_pos (T : VT) : 1 ≤ cntK T := by unfold cntK; omega
/-- The bytes of a text, laid by a conversion. -/
theorem ownB_text (w : World) (B : Nat) (s : ByteArray) (hB : B ≤ w.heap.size) : OwnB (Lib.bytesWorld w 5 s) B (txtL s) (.slice (some ⟨w.heap.size, 0, none⟩) s.size (grownCap w s.size 0 5)) := by
  refine ⟨_, _, by rw [txtL_length], .inr ⟨_, _, _, rfl, hB, Lib.bytesWorld_at_new w 5 s, ?_⟩⟩
  unfold Lib.bytesCells
  rw [Array.toList_append, List.take_append_of_le_length (by rw [txtL_length]; simp), Array.toList_map, List.take_of_length_le (by rw [txtL_length]; simp)]
  unfold txtL bs
  rw [List.map_map]
  rfl
theorem below_bytes (w : World) (s : ByteArray) : Below w.heap.size w (Lib.bytesWorld w 5 s) := ⟨rfl, rfl, rfl, by rw [Lib.bytesWorld_size]; omega, fun k hk => Lib.bytesWorld_at_old w _ _ k hk⟩
set_option maxHeartbeats 4000000 in
set_option maxRecDepth 100000 in
theorem pieces_0 (B gf : Nat) (sh : Bool) (u o : Int) (s : ByteArray) (n : Bool → Nat) (f : Bool → Nat → VT) (hgf : B ≤ gf) : PC B gf sh (.mk 0 u s o n f) := by
  intro W st A c h hB hb
  obtain ⟨hwf, hk⟩ := h.open_
  have hu0 : 0 ≤ u := hwf.2.2.1
  have hu1 : u ≤ 18446744073709551615 := hwf.2.2.2.1
  have HT := Lib.hid h
  clear h hk hwf
  unfold vV
  simp only [VT.k, VT.u, VT.s, VT.o, VT.n]
  have HPG := Lib.hid (@Iff.rfl (PCPost gf sh (.mk 0 u s o n f) W = PCPost gf sh (.mk 0 u s o n f) W))
  clear HPG
  generalize A false = A0 at *
  generalize A true = A1 at *
  generalize c false = c0 at *
  generalize c true = c1 at *
  obtain ⟨n0, hn0⟩ : ∃ x, n false = x := ⟨_, rfl⟩
  obtain ⟨n1, hn1⟩ : ∃ x, n true = x := ⟨_, rfl⟩
  rw [hn0, hn1]
  obtain ⟨w1, hw1⟩ : ∃ w1, w1 = W.alloc (.cells #[.int .i64 0, .int .u64 u, .string s, .slice A0 n0 c0, .int .i64 o, .slice A1 n1 c1] 25) := ⟨_, rfl⟩
  have hp1 : Blk w1 W.heap.size 25 [.int .i64 0, .int .u64 u, .string s, .slice A0 n0 c0, .int .i64 o, .slice A1 n1 c1] := by rw [hw1]; exact Blk.new W 25 [.int .i64 0, .int .u64 u, .string s, .slice A0 n0 c0, .int .i64 o, .slice A1 n1 c1]
  have hb1 : Below W.heap.size W w1 := by rw [hw1]; exact (Below.refl _ W).alloc (Nat.le_refl _) _
  have hf1 : Blk w1 gf 77 [.int .u64 st, .bool sh] := by rw [hw1]; exact hb.alloc _
  have hz1 : w1.heap.size = W.heap.size + 1 := by rw [hw1]; simp
  have v0 := hp1.cell 0
  have v1 := hp1.cell 1
  have v2 := hp1.cell 2
  have v3 := hp1.cell 3
  simp only [List.getElem?_cons_zero, List.getElem?_cons_succ] at v0 v1 v2 v3
  have HW1 := Lib.hid hw1
  have HP1 := Lib.hid hp1
  have HB1 := Lib.hid hb1
  have HF1 := Lib.hid hf1
  have HN0 := Lib.hid hn0
  have HZ1 := Lib.hid hz1
  clear hw1 hp1 hb1 hf1 hb hn0 hn1 hz1
  go_enter Tryd.func64, Tryd.ntmps64
  go_upto_region 1 with (fail)
  rw [← HW1.out]
  go_wp2
  go_ret
  have hb2 : Below W.heap.size W (w1.alloc (.cells (rowP [(64, [])] [.slice none 0 0]).toArray 118)) := HB1.out.alloc (by have := HZ1.out; omega) _
  refine ⟨_, [(64, [])], st, rfl, ?_, pcsW_lay w1 W.heap.size [(64, [])] [.slice none 0 0] rfl (by simp) (by have := HZ1.out; omega) ?_, HF1.out.alloc _, grown_of_below hb2 _⟩
  · exact ⟨⟨_, List.mem_singleton.2 rfl, rfl⟩, by simp, fun p hp => by
      rw [List.mem_singleton.1 hp]
      exact ⟨by simp [codesK, codesL, VT.k], isB_nil, by have := cntK_pos (.mk 0 u s o n f); simp; omega⟩, pcsX_no (by simp [VT.k]) (by simp [VT.k]) (by simp [VT.k]) (by simp [VT.k]), fun e => absurd e (by simp [VT.k])⟩
  · intro i p v h1 h2
    match i with
    | 0 => simp at h1 h2; subst h1 h2; exact OwnB.nil _ _
    | i + 1 => simp at h1
set_option maxHeartbeats 4000000 in
set_option maxRecDepth 100000 in
theorem pieces_1_0 (B gf : Nat) (sh : Bool) (o : Int) (s : ByteArray) (n : Bool → Nat) (f : Bool → Nat → VT) (hgf : B ≤ gf) : PC B gf sh (.mk 1 0 s o n f) := by
  intro W st A c h hB hb
  obtain ⟨hwf, hk⟩ := h.open_
  have HT := Lib.hid h
  clear h hk hwf
  unfold vV
  simp only [VT.k, VT.u, VT.s, VT.o, VT.n]
  have HPG := Lib.hid (@Iff.rfl (PCPost gf sh (.mk 1 0 s o n f) W = PCPost gf sh (.mk 1 0 s o n f) W))
  clear HPG
  generalize A false = A0 at *
  generalize A true = A1 at *
  generalize c false = c0 at *
  generalize c true = c1 at *
  obtain ⟨n0, hn0⟩ : ∃ x, n false = x := ⟨_, rfl⟩
  obtain ⟨n1, hn1⟩ : ∃ x, n true = x := ⟨_, rfl⟩
  rw [hn0, hn1]
  obtain ⟨w1, hw1⟩ : ∃ w1, w1 = W.alloc (.cells #[.int .i64 1, .int .u64 0, .string s, .slice A0 n0 c0, .int .i64 o, .slice A1 n1 c1] 25) := ⟨_, rfl⟩
  have hp1 : Blk w1 W.heap.size 25 [.int .i64 1, .int .u64 0, .string s, .slice A0 n0 c0, .int .i64 o, .slice A1 n1 c1] := by rw [hw1]; exact Blk.new W 25 [.int .i64 1, .int .u64 0, .string s, .slice A0 n0 c0, .int .i64 o, .slice A1 n1 c1]
  have hb1 : Below W.heap.size W w1 := by rw [hw1]; exact (Below.refl _ W).alloc (Nat.le_refl _) _
  have hf1 : Blk w1 gf 77 [.int .u64 st, .bool sh] := by rw [hw1]; exact hb.alloc _
  have hz1 : w1.heap.size = W.heap.size + 1 := by rw [hw1]; simp
  have v0 := hp1.cell 0
  have v1 := hp1.cell 1
  have v2 := hp1.cell 2
  have v3 := hp1.cell 3
  simp only [List.getElem?_cons_zero, List.getElem?_cons_succ] at v0 v1 v2 v3
  have HW1 := Lib.hid hw1
  have HP1 := Lib.hid hp1
  have HB1 := Lib.hid hb1
  have HF1 := Lib.hid hf1
  have HN0 := Lib.hid hn0
  have HZ1 := Lib.hid hz1
  clear hw1 hp1 hb1 hf1 hb hn0 hn1 hz1
  have hw8 : IntKind.i64.wrap 0 = 0 := by decide
  obtain ⟨w2, hw2⟩ : ∃ w2, w2 = w1.alloc (.cells #[.int .u8 0] 5) := ⟨_, rfl⟩
  have hbl : Blk w2 w1.heap.size 5 [.int .u8 0] := by rw [hw2]; exact Blk.new w1 _ [_]
  have hb2 : Below W.heap.size W w2 := by rw [hw2]; exact HB1.out.alloc (by have := HZ1.out; omega) _
  have hf2 : Blk w2 gf 77 [.int .u64 st, .bool sh] := by rw [hw2]; exact HF1.out.alloc _
  have ho2 : OwnB w2 W.heap.size [0] (.slice (some ⟨w1.heap.size, 0, none⟩) 1 1) := OwnB.of_own (blk_own (base := W.heap.size) (n := 1) hbl (by have := HZ1.out; omega) (by simp) (by simp [maxLen])) rfl
  have hz2 : w2.heap.size = w1.heap.size + 1 := by rw [hw2]; simp
  have HW2 := Lib.hid hw2
  have HB2 := Lib.hid hb2
  have HF2 := Lib.hid hf2
  have HO2 := Lib.hid ho2
  have HZ2 := Lib.hid hz2
  clear hw2 hbl hb2 hf2 ho2 hz2
  go_enter Tryd.func64, Tryd.ntmps64
  go_upto_region 1 with (fail)
  rw [← HW1.out]
  go_wp2
  rw [← HW2.out]
  go_ret
  have hz : W.heap.size ≤ w2.heap.size := by have := HZ1.out; have := HZ2.out; omega
  have hb3 : Below W.heap.size W (w2.alloc (.cells (rowP [(66, []), (86, [0])] [.slice none 0 0, .slice (some ⟨w1.heap.size, 0, none⟩) 1 1]).toArray 118)) := HB2.out.alloc hz _
  have hrow := pcsW_lay w2 W.heap.size [(66, []), (86, [0])] [.slice none 0 0, .slice (some ⟨w1.heap.size, 0, none⟩) 1 1] rfl (by simp) hz (fun i p v h1 h2 => by
    match i with
    | 0 => simp at h1 h2; subst h1 h2; exact OwnB.nil _ _
    | 1 => simp at h1 h2; subst h1 h2; exact HO2.out
    | i + 2 => simp at h1)
  have hadr : w1.heap.size + 1 = w2.heap.size := HZ2.out.symm
  try rw [hadr]
  refine ⟨_, [(66, []), (86, [0])], st, rfl, ?_, hrow, HF2.out.alloc _, grown_of_below hb3 _⟩
  refine ⟨⟨_, List.mem_cons_of_mem _ (List.mem_singleton.2 rfl), rfl⟩, by simp, fun p hp => ?_, pcsX_no (by simp [VT.k]) (by simp [VT.k]) (by simp [VT.k]) (by simp [VT.k]), fun e => absurd e (by simp [VT.k])⟩
  have := cntK_pos (.mk 1 0 s o n f)
  rcases List.mem_cons.1 hp with h | h
  · rw [h]; exact ⟨by simp [codesK, codesL, VT.k], isB_nil, by simp; omega⟩
  · rw [List.mem_singleton.1 h]; exact ⟨by simp [codesK, codesL, VT.k], fun x hx => by rw [List.mem_singleton.1 hx]; omega, by simp; omega⟩
set_option maxHeartbeats 4000000 in
set_option maxRecDepth 100000 in
theorem pieces_1_1 (B gf : Nat) (sh : Bool) (o : Int) (s : ByteArray) (n : Bool → Nat) (f : Bool → Nat → VT) (hgf : B ≤ gf) : PC B gf sh (.mk 1 1 s o n f) := by
  intro W st A c h hB hb
  obtain ⟨hwf, hk⟩ := h.open_
  have HT := Lib.hid h
  clear h hk hwf
  unfold vV
  simp only [VT.k, VT.u, VT.s, VT.o, VT.n]
  have HPG := Lib.hid (@Iff.rfl (PCPost gf sh (.mk 1 1 s o n f) W = PCPost gf sh (.mk 1 1 s o n f) W))
  clear HPG
  generalize A false = A0 at *
  generalize A true = A1 at *
  generalize c false = c0 at *
  generalize c true = c1 at *
  obtain ⟨n0, hn0⟩ : ∃ x, n false = x := ⟨_, rfl⟩
  obtain ⟨n1, hn1⟩ : ∃ x, n true = x := ⟨_, rfl⟩
  rw [hn0, hn1]
  obtain ⟨w1, hw1⟩ : ∃ w1, w1 = W.alloc (.cells #[.int .i64 1, .int .u64 1, .string s, .slice A0 n0 c0, .int .i64 o, .slice A1 n1 c1] 25) := ⟨_, rfl⟩
  have hp1 : Blk w1 W.heap.size 25 [.int .i64 1, .int .u64 1, .string s, .slice A0 n0 c0, .int .i64 o, .slice A1 n1 c1] := by rw [hw1]; exact Blk.new W 25 [.int .i64 1, .int .u64 1, .string s, .slice A0 n0 c0, .int .i64 o, .slice A1 n1 c1]
  have hb1 : Below W.heap.size W w1 := by rw [hw1]; exact (Below.refl _ W).alloc (Nat.le_refl _) _
  have hf1 : Blk w1 gf 77 [.int .u64 st, .bool sh] := by rw [hw1]; exact hb.alloc _
  have hz1 : w1.heap.size = W.heap.size + 1 := by rw [hw1]; simp
  have v0 := hp1.cell 0
  have v1 := hp1.cell 1
  have v2 := hp1.cell 2
  have v3 := hp1.cell 3
  simp only [List.getElem?_cons_zero, List.getElem?_cons_succ] at v0 v1 v2 v3
  have HW1 := Lib.hid hw1
  have HP1 := Lib.hid hp1
  have HB1 := Lib.hid hb1
  have HF1 := Lib.hid hf1
  have HN0 := Lib.hid hn0
  have HZ1 := Lib.hid hz1
  clear hw1 hp1 hb1 hf1 hb hn0 hn1 hz1
  have hw8 : IntKind.i64.wrap 1 = 1 := by decide
  obtain ⟨w2, hw2⟩ : ∃ w2, w2 = w1.alloc (.cells #[.int .u8 1] 5) := ⟨_, rfl⟩
  have hbl : Blk w2 w1.heap.size 5 [.int .u8 1] := by rw [hw2]; exact Blk.new w1 _ [_]
  have hb2 : Below W.heap.size W w2 := by rw [hw2]; exact HB1.out.alloc (by have := HZ1.out; omega) _
  have hf2 : Blk w2 gf 77 [.int .u64 st, .bool sh] := by rw [hw2]; exact HF1.out.alloc _
  have ho2 : OwnB w2 W.heap.size [1] (.slice (some ⟨w1.heap.size, 0, none⟩) 1 1) := OwnB.of_own (blk_own (base := W.heap.size) (n := 1) hbl (by have := HZ1.out; omega) (by simp) (by simp [maxLen])) rfl
  have hz2 : w2.heap.size = w1.heap.size + 1 := by rw [hw2]; simp
  have HW2 := Lib.hid hw2
  have HB2 := Lib.hid hb2
  have HF2 := Lib.hid hf2
  have HO2 := Lib.hid ho2
  have HZ2 := Lib.hid hz2
  clear hw2 hbl hb2 hf2 ho2 hz2
  go_enter Tryd.func64, Tryd.ntmps64
  go_upto_region 1 with (fail)
  rw [← HW1.out]
  go_wp2
  rw [← HW2.out]
  go_ret
  have hz : W.heap.size ≤ w2.heap.size := by have := HZ1.out; have := HZ2.out; omega
  have hb3 : Below W.heap.size W (w2.alloc (.cells (rowP [(65, []), (86, [1])] [.slice none 0 0, .slice (some ⟨w1.heap.size, 0, none⟩) 1 1]).toArray 118)) := HB2.out.alloc hz _
  have hrow := pcsW_lay w2 W.heap.size [(65, []), (86, [1])] [.slice none 0 0, .slice (some ⟨w1.heap.size, 0, none⟩) 1 1] rfl (by simp) hz (fun i p v h1 h2 => by
    match i with
    | 0 => simp at h1 h2; subst h1 h2; exact OwnB.nil _ _
    | 1 => simp at h1 h2; subst h1 h2; exact HO2.out
    | i + 2 => simp at h1)
  have hadr : w1.heap.size + 1 = w2.heap.size := HZ2.out.symm
  try rw [hadr]
  refine ⟨_, [(65, []), (86, [1])], st, rfl, ?_, hrow, HF2.out.alloc _, grown_of_below hb3 _⟩
  refine ⟨⟨_, List.mem_cons_of_mem _ (List.mem_singleton.2 rfl), rfl⟩, by simp, fun p hp => ?_, pcsX_no (by simp [VT.k]) (by simp [VT.k]) (by simp [VT.k]) (by simp [VT.k]), fun e => absurd e (by simp [VT.k])⟩
  have := cntK_pos (.mk 1 1 s o n f)
  rcases List.mem_cons.1 hp with h | h
  · rw [h]; exact ⟨by simp [codesK, codesL, VT.k], isB_nil, by simp; omega⟩
  · rw [List.mem_singleton.1 h]; exact ⟨by simp [codesK, codesL, VT.k], fun x hx => by rw [List.mem_singleton.1 hx]; omega, by simp; omega⟩
set_option maxHeartbeats 4000000 in
set_option maxRecDepth 100000 in
theorem pieces_18 (B gf : Nat) (sh : Bool) (u o : Int) (s : ByteArray) (n : Bool → Nat) (f : Bool → Nat → VT) (hgf : B ≤ gf) (hsz : s.size ≤ 131072) : PC B gf sh (.mk 18 u s o n f) := by
  intro W st A c h hB hb
  obtain ⟨hwf, hk⟩ := h.open_
  have hu0 : 0 ≤ u := hwf.2.2.1
  have hu1 : u ≤ 18446744073709551615 := hwf.2.2.2.1
  have HT := Lib.hid h
  clear h hk hwf
  unfold vV
  simp only [VT.k, VT.u, VT.s, VT.o, VT.n]
  have HPG := Lib.hid (@Iff.rfl (PCPost gf sh (.mk 18 u s o n f) W = PCPost gf sh (.mk 18 u s o n f) W))
  clear HPG
  generalize A false = A0 at *
  generalize A true = A1 at *
  generalize c false = c0 at *
  generalize c true = c1 at *
  obtain ⟨n0, hn0⟩ : ∃ x, n false = x := ⟨_, rfl⟩
  obtain ⟨n1, hn1⟩ : ∃ x, n true = x := ⟨_, rfl⟩
  rw [hn0, hn1]
  obtain ⟨w1, hw1⟩ : ∃ w1, w1 = W.alloc (.cells #[.int .i64 18, .int .u64 u, .string s, .slice A0 n0 c0, .int .i64 o, .slice A1 n1 c1] 25) := ⟨_, rfl⟩
  have hp1 : Blk w1 W.heap.size 25 [.int .i64 18, .int .u64 u, .string s, .slice A0 n0 c0, .int .i64 o, .slice A1 n1 c1] := by rw [hw1]; exact Blk.new W 25 [.int .i64 18, .int .u64 u, .string s, .slice A0 n0 c0, .int .i64 o, .slice A1 n1 c1]
  have hb1 : Below W.heap.size W w1 := by rw [hw1]; exact (Below.refl _ W).alloc (Nat.le_refl _) _
  have hf1 : Blk w1 gf 77 [.int .u64 st, .bool sh] := by rw [hw1]; exact hb.alloc _
  have hz1 : w1.heap.size = W.heap.size + 1 := by rw [hw1]; simp
  have v0 := hp1.cell 0
  have v1 := hp1.cell 1
  have v2 := hp1.cell 2
  have v3 := hp1.cell 3
  simp only [List.getElem?_cons_zero, List.getElem?_cons_succ] at v0 v1 v2 v3
  have HW1 := Lib.hid hw1
  have HP1 := Lib.hid hp1
  have HB1 := Lib.hid hb1
  have HF1 := Lib.hid hf1
  have HN0 := Lib.hid hn0
  have HZ1 := Lib.hid hz1
  clear hw1 hp1 hb1 hf1 hb hn0 hn1 hz1
  have hcv : ∀ w : World, (convert 9 26 (.string s)).run Tryd.prog w = .ok (.slice (some ⟨w.heap.size, 0, none⟩) s.size (grownCap w s.size 0 5)) (Lib.bytesWorld w 5 s) := fun w => Lib.run_convert_string_bytes (P := Tryd.prog) w 9 26 5 s Tryd.underlying9 Tryd.underlying26 Tryd.underlying5
  obtain ⟨cp, hcp⟩ : ∃ cp, grownCap w1 s.size 0 5 = cp := ⟨_, rfl⟩
  obtain ⟨w2, hw2⟩ : ∃ w2, Lib.bytesWorld w1 5 s = w2 := ⟨_, rfl⟩
  have hcv1 : (convert 9 26 (.string s)).run Tryd.prog w1 = .ok (.slice (some ⟨w1.heap.size, 0, none⟩) s.size cp) w2 := by rw [hcv w1, hcp, hw2]
  have ho2 := ownB_text w1 w1.heap.size s (Nat.le_refl _)
  rw [hcp, hw2] at ho2
  have hb2 := below_bytes w1 s
  rw [hw2] at hb2
  have hrd : Reads w2 w2.heap.size 1 (some ⟨w1.heap.size, 0, none⟩) (txtL s).length (bs (txtL s)) := by
    obtain ⟨A2, c2, hv2, hr2⟩ := ho2
    injection hv2 with hv2
    subst hv2
    exact hr2.reads
  have hcall := lengthed_txt w2 160 176 (txtL s) (some ⟨w1.heap.size, 0, none⟩) cp hrd (by rw [txtL_length]; omega)
  rw [txtL_length] at hcall
  have hbw2 : Below W.heap.size W w2 := HB1.out.trans (hb2.mono (by have := HZ1.out; omega))
  have hf2 : Blk w2 gf 77 [.int .u64 st, .bool sh] := HF1.out.below hb2 HF1.out.lt
  have HC := Lib.hid hcall
  have HB2 := Lib.hid hbw2
  have HF2 := Lib.hid hf2
  clear hcv hcp hw2 ho2 hb2 hrd hcall hbw2 hf2
  go_enter Tryd.func64, Tryd.ntmps64
  go_upto_region 1 with (fail)
  rw [← HW1.out]
  go_wp2_with (
    (go_at_call 88)
    go_must (
      (refine HC.out.mono ?_)
      rintro e w3 ⟨v3, rfl, hpw, hb3⟩
      have HPW := Lib.hid hpw
      have HB3 := Lib.hid hb3
      clear hpw hb3))
  go_ret
  obtain ⟨p1, p2, p3⟩ := lenP_props 160 176 (txtL s) (-1) (isB_txt s)
  refine ⟨v3, lenP 160 176 (txtL s) (-1), st, rfl, ?_, HPW.out.lower HB2.out.size, HF2.out.below HB3.out HF2.out.lt, grown_of_below (HB2.out.trans (HB3.out.mono HB2.out.size)) _⟩
  refine ⟨⟨_, p1, rfl⟩, by omega, fun p hp => ?_, ⟨fun h2 h16 _ => absurd h16 (by simp [VT.k]), fun e => ?_, fun e => ?_, fun e => ?_⟩, fun e => absurd e (by simp [VT.k])⟩
  · obtain ⟨q1, q2, q3⟩ := p3 p hp
    refine ⟨?_, q2, ?_⟩
    · rcases q1 with h | h <;> rw [h] <;> simp [codesK, codesL, VT.k]
    · rw [txtL_length] at q3
      have := cntK_pos (.mk 18 u s o n f)
      omega
  all_goals first
    | rfl
    | exact absurd e (by simp [VT.k])
set_option maxHeartbeats 4000000 in
set_option maxRecDepth 100000 in
theorem pieces_19 (B gf : Nat) (sh : Bool) (u o : Int) (s : ByteArray) (n : Bool → Nat) (f : Bool → Nat → VT) (hgf : B ≤ gf) (hsz : s.size ≤ 131072) : PC B gf sh (.mk 19 u s o n f) := by
  intro W st A c h hB hb
  obtain ⟨hwf, hk⟩ := h.open_
  have hu0 : 0 ≤ u := hwf.2.2.1
  have hu1 : u ≤ 18446744073709551615 := hwf.2.2.2.1
  have HT := Lib.hid h
  clear h hk hwf
  unfold vV
  simp only [VT.k, VT.u, VT.s, VT.o, VT.n]
  have HPG := Lib.hid (@Iff.rfl (PCPost gf sh (.mk 19 u s o n f) W = PCPost gf sh (.mk 19 u s o n f) W))
  clear HPG
  generalize A false = A0 at *
  generalize A true = A1 at *
  generalize c false = c0 at *
  generalize c true = c1 at *
  obtain ⟨n0, hn0⟩ : ∃ x, n false = x := ⟨_, rfl⟩
  obtain ⟨n1, hn1⟩ : ∃ x, n true = x := ⟨_, rfl⟩
  rw [hn0, hn1]
  obtain ⟨w1, hw1⟩ : ∃ w1, w1 = W.alloc (.cells #[.int .i64 19, .int .u64 u, .string s, .slice A0 n0 c0, .int .i64 o, .slice A1 n1 c1] 25) := ⟨_, rfl⟩
  have hp1 : Blk w1 W.heap.size 25 [.int .i64 19, .int .u64 u, .string s, .slice A0 n0 c0, .int .i64 o, .slice A1 n1 c1] := by rw [hw1]; exact Blk.new W 25 [.int .i64 19, .int .u64 u, .string s, .slice A0 n0 c0, .int .i64 o, .slice A1 n1 c1]
  have hb1 : Below W.heap.size W w1 := by rw [hw1]; exact (Below.refl _ W).alloc (Nat.le_refl _) _
  have hf1 : Blk w1 gf 77 [.int .u64 st, .bool sh] := by rw [hw1]; exact hb.alloc _
  have hz1 : w1.heap.size = W.heap.size + 1 := by rw [hw1]; simp
  have v0 := hp1.cell 0
  have v1 := hp1.cell 1
  have v2 := hp1.cell 2
  have v3 := hp1.cell 3
  simp only [List.getElem?_cons_zero, List.getElem?_cons_succ] at v0 v1 v2 v3
  have HW1 := Lib.hid hw1
  have HP1 := Lib.hid hp1
  have HB1 := Lib.hid hb1
  have HF1 := Lib.hid hf1
  have HN0 := Lib.hid hn0
  have HZ1 := Lib.hid hz1
  clear hw1 hp1 hb1 hf1 hb hn0 hn1 hz1
  have hcv : ∀ w : World, (convert 9 26 (.string s)).run Tryd.prog w = .ok (.slice (some ⟨w.heap.size, 0, none⟩) s.size (grownCap w s.size 0 5)) (Lib.bytesWorld w 5 s) := fun w => Lib.run_convert_string_bytes (P := Tryd.prog) w 9 26 5 s Tryd.underlying9 Tryd.underlying26 Tryd.underlying5
  obtain ⟨cp, hcp⟩ : ∃ cp, grownCap w1 s.size 0 5 = cp := ⟨_, rfl⟩
  obtain ⟨w2, hw2⟩ : ∃ w2, Lib.bytesWorld w1 5 s = w2 := ⟨_, rfl⟩
  have hcv1 : (convert 9 26 (.string s)).run Tryd.prog w1 = .ok (.slice (some ⟨w1.heap.size, 0, none⟩) s.size cp) w2 := by rw [hcv w1, hcp, hw2]
  have ho2 := ownB_text w1 w1.heap.size s (Nat.le_refl _)
  rw [hcp, hw2] at ho2
  have hb2 := below_bytes w1 s
  rw [hw2] at hb2
  have hrd : Reads w2 w2.heap.size 1 (some ⟨w1.heap.size, 0, none⟩) (txtL s).length (bs (txtL s)) := by
    obtain ⟨A2, c2, hv2, hr2⟩ := ho2
    injection hv2 with hv2
    subst hv2
    exact hr2.reads
  have hcall := lengthed_txt w2 161 177 (txtL s) (some ⟨w1.heap.size, 0, none⟩) cp hrd (by rw [txtL_length]; omega)
  rw [txtL_length] at hcall
  have hbw2 : Below W.heap.size W w2 := HB1.out.trans (hb2.mono (by have := HZ1.out; omega))
  have hf2 : Blk w2 gf 77 [.int .u64 st, .bool sh] := HF1.out.below hb2 HF1.out.lt
  have HC := Lib.hid hcall
  have HB2 := Lib.hid hbw2
  have HF2 := Lib.hid hf2
  clear hcv hcp hw2 ho2 hb2 hrd hcall hbw2 hf2
  go_enter Tryd.func64, Tryd.ntmps64
  go_upto_region 1 with (fail)
  rw [← HW1.out]
  go_wp2_with (
    (go_at_call 88)
    go_must (
      (refine HC.out.mono ?_)
      rintro e w3 ⟨v3, rfl, hpw, hb3⟩
      have HPW := Lib.hid hpw
      have HB3 := Lib.hid hb3
      clear hpw hb3))
  go_ret
  obtain ⟨p1, p2, p3⟩ := lenP_props 161 177 (txtL s) (-1) (isB_txt s)
  refine ⟨v3, lenP 161 177 (txtL s) (-1), st, rfl, ?_, HPW.out.lower HB2.out.size, HF2.out.below HB3.out HF2.out.lt, grown_of_below (HB2.out.trans (HB3.out.mono HB2.out.size)) _⟩
  refine ⟨⟨_, p1, rfl⟩, by omega, fun p hp => ?_, ⟨fun h2 h16 _ => absurd h16 (by simp [VT.k]), fun e => ?_, fun e => ?_, fun e => ?_⟩, fun e => absurd e (by simp [VT.k])⟩
  · obtain ⟨q1, q2, q3⟩ := p3 p hp
    refine ⟨?_, q2, ?_⟩
    · rcases q1 with h | h <;> rw [h] <;> simp [codesK, codesL, VT.k]
    · rw [txtL_length] at q3
      have := cntK_pos (.mk 19 u s o n f)
      omega
  all_goals first
    | rfl
    | exact absurd e (by simp [VT.k])
set_option maxHeartbeats 4000000 in
set_option maxRecDepth 100000 in
theorem pieces_20 (B gf : Nat) (sh : Bool) (u o : Int) (s : ByteArray) (n : Bool → Nat) (f : Bool → Nat → VT) (hgf : B ≤ gf) (hsz : s.size ≤ 131072) : PC B gf sh (.mk 20 u s o n f) := by
  intro W st A c h hB hb
  obtain ⟨hwf, hk⟩ := h.open_
  have hu0 : 0 ≤ u := hwf.2.2.1
  have hu1 : u ≤ 18446744073709551615 := hwf.2.2.2.1
  have HT := Lib.hid h
  clear h hk hwf
  unfold vV
  simp only [VT.k, VT.u, VT.s, VT.o, VT.n]
  have HPG := Lib.hid (@Iff.rfl (PCPost gf sh (.mk 20 u s o n f) W = PCPost gf sh (.mk 20 u s o n f) W))
  clear HPG
  generalize A false = A0 at *
  generalize A true = A1 at *
  generalize c false = c0 at *
  generalize c true = c1 at *
  obtain ⟨n0, hn0⟩ : ∃ x, n false = x := ⟨_, rfl⟩
  obtain ⟨n1, hn1⟩ : ∃ x, n true = x := ⟨_, rfl⟩
  rw [hn0, hn1]
  obtain ⟨w1, hw1⟩ : ∃ w1, w1 = W.alloc (.cells #[.int .i64 20, .int .u64 u, .string s, .slice A0 n0 c0, .int .i64 o, .slice A1 n1 c1] 25) := ⟨_, rfl⟩
  have hp1 : Blk w1 W.heap.size 25 [.int .i64 20, .int .u64 u, .string s, .slice A0 n0 c0, .int .i64 o, .slice A1 n1 c1] := by rw [hw1]; exact Blk.new W 25 [.int .i64 20, .int .u64 u, .string s, .slice A0 n0 c0, .int .i64 o, .slice A1 n1 c1]
  have hb1 : Below W.heap.size W w1 := by rw [hw1]; exact (Below.refl _ W).alloc (Nat.le_refl _) _
  have hf1 : Blk w1 gf 77 [.int .u64 st, .bool sh] := by rw [hw1]; exact hb.alloc _
  have hz1 : w1.heap.size = W.heap.size + 1 := by rw [hw1]; simp
  have v0 := hp1.cell 0
  have v1 := hp1.cell 1
  have v2 := hp1.cell 2
  have v3 := hp1.cell 3
  simp only [List.getElem?_cons_zero, List.getElem?_cons_succ] at v0 v1 v2 v3
  have HW1 := Lib.hid hw1
  have HP1 := Lib.hid hp1
  have HB1 := Lib.hid hb1
  have HF1 := Lib.hid hf1
  have HN0 := Lib.hid hn0
  have HZ1 := Lib.hid hz1
  clear hw1 hp1 hb1 hf1 hb hn0 hn1 hz1
  have hcv : ∀ w : World, (convert 9 26 (.string s)).run Tryd.prog w = .ok (.slice (some ⟨w.heap.size, 0, none⟩) s.size (grownCap w s.size 0 5)) (Lib.bytesWorld w 5 s) := fun w => Lib.run_convert_string_bytes (P := Tryd.prog) w 9 26 5 s Tryd.underlying9 Tryd.underlying26 Tryd.underlying5
  obtain ⟨cp, hcp⟩ : ∃ cp, grownCap w1 s.size 0 5 = cp := ⟨_, rfl⟩
  obtain ⟨w2, hw2⟩ : ∃ w2, Lib.bytesWorld w1 5 s = w2 := ⟨_, rfl⟩
  have hcv1 : (convert 9 26 (.string s)).run Tryd.prog w1 = .ok (.slice (some ⟨w1.heap.size, 0, none⟩) s.size cp) w2 := by rw [hcv w1, hcp, hw2]
  have ho2 := ownB_text w1 w1.heap.size s (Nat.le_refl _)
  rw [hcp, hw2] at ho2
  have hb2 := below_bytes w1 s
  rw [hw2] at hb2
  have hrd : Reads w2 w2.heap.size 1 (some ⟨w1.heap.size, 0, none⟩) (txtL s).length (bs (txtL s)) := by
    obtain ⟨A2, c2, hv2, hr2⟩ := ho2
    injection hv2 with hv2
    subst hv2
    exact hr2.reads
  have hcall := lengthed_txt w2 163 179 (txtL s) (some ⟨w1.heap.size, 0, none⟩) cp hrd (by rw [txtL_length]; omega)
  rw [txtL_length] at hcall
  have hbw2 : Below W.heap.size W w2 := HB1.out.trans (hb2.mono (by have := HZ1.out; omega))
  have hf2 : Blk w2 gf 77 [.int .u64 st, .bool sh] := HF1.out.below hb2 HF1.out.lt
  have HC := Lib.hid hcall
  have HB2 := Lib.hid hbw2
  have HF2 := Lib.hid hf2
  clear hcv hcp hw2 ho2 hb2 hrd hcall hbw2 hf2
  go_enter Tryd.func64, Tryd.ntmps64
  go_upto_region 1 with (fail)
  rw [← HW1.out]
  go_wp2_with (
    (go_at_call 88)
    go_must (
      (refine HC.out.mono ?_)
      rintro e w3 ⟨v3, rfl, hpw, hb3⟩
      have HPW := Lib.hid hpw
      have HB3 := Lib.hid hb3
      clear hpw hb3))
  go_ret
  obtain ⟨p1, p2, p3⟩ := lenP_props 163 179 (txtL s) (-1) (isB_txt s)
  refine ⟨v3, lenP 163 179 (txtL s) (-1), st, rfl, ?_, HPW.out.lower HB2.out.size, HF2.out.below HB3.out HF2.out.lt, grown_of_below (HB2.out.trans (HB3.out.mono HB2.out.size)) _⟩
  refine ⟨⟨_, p1, rfl⟩, by omega, fun p hp => ?_, ⟨fun h2 h16 _ => absurd h16 (by simp [VT.k]), fun e => ?_, fun e => ?_, fun e => ?_⟩, fun e => absurd e (by simp [VT.k])⟩
  · obtain ⟨q1, q2, q3⟩ := p3 p hp
    refine ⟨?_, q2, ?_⟩
    · rcases q1 with h | h <;> rw [h] <;> simp [codesK, codesL, VT.k]
    · rw [txtL_length] at q3
      have := cntK_pos (.mk 20 u s o n f)
      omega
  all_goals first
    | rfl
    | exact absurd e (by simp [VT.k])
end Go.Proofs.YtjjhckbidcdkcaaDoor
