/- spec.PutPack at an integer. PRINTED by wip/genpg.py. -/
import Derived.Test.YtfhaddnacdjpoaaDoorPf
namespace Go.Proofs.YtfhaddnacdjpoaaDoor
open Go.RowKit
set_option linter.unusedVariables false

set_option maxHeartbeats 2000000 in
set_option maxRecDepth 100000 in
theorem PutPack_int_neg (W : World) (gf : Nat) (st n U : Int) (sh : Bool) (hU : U = n + 18446744073709551616) (h0 : -9223372036854775808 ≤ n) (h1 : n < 0) (hb : Blk W gf 34 [.int .u64 st, .bool sh]) :
    Calls Tryd.prog 7 #[.agg #[.int .i64 2, .int .u64 U, .string ⟨#[]⟩, .int .i64 0, .slice none 0 0], .pointer (some ⟨gf, 0, none⟩)] W (PutH gf sh (IntF n) W) := by
  obtain ⟨w1, hw1⟩ : ∃ w1, w1 = W.alloc (.cells #[.int .i64 2, .int .u64 U, .string ⟨#[]⟩, .int .i64 0, .slice none 0 0] 30) := ⟨_, rfl⟩
  have hz : W.heap.size ≤ w1.heap.size := by rw [hw1]; simp
  have hb1 : Blk w1 gf 34 [.int .u64 st, .bool sh] := by rw [hw1]; exact hb.alloc _
  have hg0 : W.grownBy w1 (some gf) := by rw [hw1]; exact World.grownBy_alloc _ _ _
  have hp : Calls Tryd.prog 21 #[.pointer (some ⟨gf, 0, none⟩), .int .u64 U, .bool true] w1 (PutH gf sh (IntF n) w1) := by
    rw [hU]
    exact putInt_neg w1 gf st n sh hb1 h0 h1
  rw [hw1] at hp
  have HP := Lib.hid hp
  have HW1 := Lib.hid hw1
  have HG0 := Lib.hid hg0
  clear hb hb1 hp hw1 hg0 hU
  go_enter Tryd.func7, Tryd.ntmps7
  go_wp2_with (
    (go_at_call 21)
    go_must (
      (refine HP.out.mono ?_)
      rintro e w2 ⟨enc, A2, c2, st2, rfl, hf2, hown2, hb2, hg2⟩
      rw [← HW1.out] at hg2 hown2
      have HF2 := Lib.hid hf2
      have HO2 := Lib.hid hown2
      have HB2 := Lib.hid hb2
      have HG2 := Lib.hid hg2
      clear hf2 hown2 hb2 hg2))
  go_ret
  exact ⟨enc, A2, c2, st2, rfl, HF2.out, own_lower HO2.out hz, HB2.out, grownP_trans HG0.out HG2.out⟩

set_option maxHeartbeats 2000000 in
set_option maxRecDepth 100000 in
theorem PutPack_int_pos (W : World) (gf : Nat) (st n U : Int) (sh : Bool) (hU : U = n) (h0 : 0 ≤ n) (h1 : n < 9223372036854775808) (hb : Blk W gf 34 [.int .u64 st, .bool sh]) :
    Calls Tryd.prog 7 #[.agg #[.int .i64 2, .int .u64 U, .string ⟨#[]⟩, .int .i64 0, .slice none 0 0], .pointer (some ⟨gf, 0, none⟩)] W (PutH gf sh (IntF n) W) := by
  obtain ⟨w1, hw1⟩ : ∃ w1, w1 = W.alloc (.cells #[.int .i64 2, .int .u64 U, .string ⟨#[]⟩, .int .i64 0, .slice none 0 0] 30) := ⟨_, rfl⟩
  have hz : W.heap.size ≤ w1.heap.size := by rw [hw1]; simp
  have hb1 : Blk w1 gf 34 [.int .u64 st, .bool sh] := by rw [hw1]; exact hb.alloc _
  have hg0 : W.grownBy w1 (some gf) := by rw [hw1]; exact World.grownBy_alloc _ _ _
  have hp : Calls Tryd.prog 21 #[.pointer (some ⟨gf, 0, none⟩), .int .u64 U, .bool true] w1 (PutH gf sh (IntF n) w1) := by
    rw [hU]
    exact putInt_pos w1 gf st n sh true hb1 h0 (by omega) (fun _ => h1)
  rw [hw1] at hp
  have HP := Lib.hid hp
  have HW1 := Lib.hid hw1
  have HG0 := Lib.hid hg0
  clear hb hb1 hp hw1 hg0 hU
  go_enter Tryd.func7, Tryd.ntmps7
  go_wp2_with (
    (go_at_call 21)
    go_must (
      (refine HP.out.mono ?_)
      rintro e w2 ⟨enc, A2, c2, st2, rfl, hf2, hown2, hb2, hg2⟩
      rw [← HW1.out] at hg2 hown2
      have HF2 := Lib.hid hf2
      have HO2 := Lib.hid hown2
      have HB2 := Lib.hid hb2
      have HG2 := Lib.hid hg2
      clear hf2 hown2 hb2 hg2))
  go_ret
  exact ⟨enc, A2, c2, st2, rfl, HF2.out, own_lower HO2.out hz, HB2.out, grownP_trans HG0.out HG2.out⟩

set_option maxHeartbeats 2000000 in
set_option maxRecDepth 100000 in
theorem PutPack_uint (W : World) (gf : Nat) (st n U : Int) (sh : Bool) (hU : U = n) (h0 : 0 ≤ n) (h1 : n ≤ 18446744073709551615) (hb : Blk W gf 34 [.int .u64 st, .bool sh]) :
    Calls Tryd.prog 7 #[.agg #[.int .i64 3, .int .u64 U, .string ⟨#[]⟩, .int .i64 0, .slice none 0 0], .pointer (some ⟨gf, 0, none⟩)] W (PutH gf sh (IntF n) W) := by
  obtain ⟨w1, hw1⟩ : ∃ w1, w1 = W.alloc (.cells #[.int .i64 3, .int .u64 U, .string ⟨#[]⟩, .int .i64 0, .slice none 0 0] 30) := ⟨_, rfl⟩
  have hz : W.heap.size ≤ w1.heap.size := by rw [hw1]; simp
  have hb1 : Blk w1 gf 34 [.int .u64 st, .bool sh] := by rw [hw1]; exact hb.alloc _
  have hg0 : W.grownBy w1 (some gf) := by rw [hw1]; exact World.grownBy_alloc _ _ _
  have hp : Calls Tryd.prog 21 #[.pointer (some ⟨gf, 0, none⟩), .int .u64 U, .bool false] w1 (PutH gf sh (IntF n) w1) := by
    rw [hU]
    exact putInt_pos w1 gf st n sh false hb1 h0 h1 (by simp)
  rw [hw1] at hp
  have HP := Lib.hid hp
  have HW1 := Lib.hid hw1
  have HG0 := Lib.hid hg0
  clear hb hb1 hp hw1 hg0 hU
  go_enter Tryd.func7, Tryd.ntmps7
  go_wp2_with (
    (go_at_call 21)
    go_must (
      (refine HP.out.mono ?_)
      rintro e w2 ⟨enc, A2, c2, st2, rfl, hf2, hown2, hb2, hg2⟩
      rw [← HW1.out] at hg2 hown2
      have HF2 := Lib.hid hf2
      have HO2 := Lib.hid hown2
      have HB2 := Lib.hid hb2
      have HG2 := Lib.hid hg2
      clear hf2 hown2 hb2 hg2))
  go_ret
  exact ⟨enc, A2, c2, st2, rfl, HF2.out, own_lower HO2.out hz, HB2.out, grownP_trans HG0.out HG2.out⟩
end Go.Proofs.YtfhaddnacdjpoaaDoor
