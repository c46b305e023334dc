/- msgp's NewWriterSize over a Text that holds nothing yet. -/
import Derived.Test.YtohainhkplombaaDoorKw
namespace Go.Proofs.YtohainhkplombaaDoor
open Go.RowKit
set_option linter.unusedVariables false

set_option maxHeartbeats 1000000 in
theorem newBuf_calls (W : World) (gt gb N : Nat) (h18 : 18 ≤ N) (hN : N ≤ 65536) :
    Calls Tryd.prog 22 #[.iface 46 (.pointer (some ⟨gt, 0, none⟩)), .slice (some ⟨gb, 0, none⟩) N N] W fun e W' =>
      e = .returned (.pointer (some ⟨W.heap.size, 0, none⟩)) ∧ W' = W.alloc (.cells #[.iface 46 (.pointer (some ⟨gt, 0, none⟩)), .slice (some ⟨gb, 0, none⟩) N N, .int .i64 0] 63) := by
  have hd : decide ((N : Int) < 18) = false := by simp; omega
  go_enter Tryd.func22, Tryd.ntmps22
  go_wp2
  go_ret
  exact ⟨rfl, rfl⟩

/-- What NewWriterSize leaves. -/
def NW (w0 : World) (B gt N : Nat) (e : Ending) (W' : World) : Prop :=
  ∃ gw gb cs, e = .returned (.pointer (some ⟨gw, 0, none⟩)) ∧ cs.length = N ∧ WP w0 W' B gw gb gt cs (.slice none 0 0) [] []

theorem new_end {w0 W w1 : World} {B gt N : Nat} (hb : Blk W gt 44 [.slice none 0 0]) (hBt : B ≤ gt) (hw0 : Below B w0 W) (hBW : B ≤ W.heap.size) (h18 : 18 ≤ N) (hN : N ≤ 65536) {zs : List Value}
    (ho : w1.ownsRow W.heap.size 5 1 (.slice (some ⟨W.heap.size, 0, none⟩) N N) N zs) (hg : W.grownBy w1 none) :
    NW w0 B gt N (.returned (.pointer (some ⟨w1.heap.size, 0, none⟩))) (w1.alloc (.cells #[.iface 46 (.pointer (some ⟨gt, 0, none⟩)), .slice (some ⟨W.heap.size, 0, none⟩) N N, .int .i64 0] 63)) := by
  obtain ⟨g', cs, hv, hbk, _, _, _, _⟩ := own_blk ho (.inr (by simp))
  simp only [Value.slice.injEq, Option.some.injEq, Addr.mk.injEq] at hv
  obtain ⟨⟨rfl, _, _⟩, _, hl⟩ := hv
  have hbt : Blk w1 gt 44 [.slice none 0 0] := hb.grown hg (by simp)
  refine ⟨w1.heap.size, W.heap.size, cs, rfl, hl.symm, ?_, hbk.alloc _, by simp [bs], Nat.zero_le _, by omega, by omega, hbt.alloc _, ⟨by simp [bs], .inl ⟨rfl, rfl⟩⟩, by simp [Value.ownBlock], Nat.le_trans hBW hg.size, hBW, hBt, ?_, ?_⟩
  · rw [← hl]; exact Blk.new w1 _ [_, _, _]
  · exact (hw0.grown hg hBW (fun k h => by cases h)).alloc (Nat.le_trans hBW hg.size) _
  · have := hg.size; simp; omega

set_option maxHeartbeats 1000000 in
theorem newSize_calls (w0 W : World) (B gt : Nat) (sz : Int) (hb : Blk W gt 44 [.slice none 0 0]) (hBt : B ≤ gt) (hw0 : Below B w0 W) (hBW : B ≤ W.heap.size) (h18 : 18 ≤ sz) (hN : sz ≤ 65536) :
    Calls Tryd.prog 13 #[.iface 46 (.pointer (some ⟨gt, 0, none⟩)), .int .i64 sz] W (NW w0 B gt sz.toNat) := by
  obtain ⟨i0, hi0, hz0, hz1, hz2⟩ := info_parts infoU8
  have hd : decide (sz < 18) = false := by simp; omega
  have HB := Lib.hid hb
  have HW0 := Lib.hid hw0
  clear hb hw0
  go_enter Tryd.func13, Tryd.ntmps13
  go_wp2_with (first
    | (at_make
       go_must (
         (refine wpList_make_full _ rfl (.tmp 8) (.tmp 8) _ rfl W.heap.size 5 i0 _ 1 Tryd.underlying24 hi0 hz0 hz1 .i64 .i64 _ _ sz.toNat rfl rfl (by omega) (by omega) (by rw [hz2]; omega) (by simp only [maxLen]; omega) (Nat.le_refl _) ?_)
         intro w1 hown1 hg1
         have HO := Lib.hid hown1
         have HG := Lib.hid hg1
         clear hown1 hg1))
    | (go_at_call 22
       go_must (
         (refine (newBuf_calls w1 gt W.heap.size sz.toNat (by omega) (by omega)).mono ?_)
         rintro e w2 ⟨rfl, rfl⟩)))
  go_ret
  exact new_end HB.out hBt HW0.out hBW (by omega) (by omega) HO.out HG.out
end Go.Proofs.YtohainhkplombaaDoor
