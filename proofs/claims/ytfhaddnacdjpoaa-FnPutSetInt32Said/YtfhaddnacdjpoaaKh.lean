/- Contracts of the reference's SamePack, at values that hold no others. PRINTED by wip/gensp.py. -/
import Derived.Test.YtfhaddnacdjpoaaKg
namespace Go.Proofs.Ytfhaddnacdjpoaa
open Go.RowKit
set_option linter.unusedVariables false


set_option maxHeartbeats 1000000 in
set_option maxRecDepth 100000 in
theorem SamePack_plain (w : World) (k u x : Int) (s : ByteArray) (hk : (k == 2) = false) :
    Calls Try.prog 14 #[.agg #[.int .i64 k, .int .u64 u, .string s, .int .i64 x, .slice none 0 0], .agg #[.int .i64 k, .int .u64 u, .string s, .int .i64 x, .slice none 0 0]] w fun e w' => e = .returned (.bool true) ∧ Below w.heap.size w w' := by
  go_enter Try.func14, Try.ntmps14
  go_wp2
  refine wp_loop_rounds 1 ?_
  rw [rounds_succ]
  go_wp2
  go_ret
  exact ⟨rfl, by first | exact ((Below.refl _ w).alloc (Nat.le_refl _) _).alloc (by simp) _ | exact (((Below.refl _ w).alloc (Nat.le_refl _) _).alloc (by simp) _).setCell (by simp) _⟩

set_option maxHeartbeats 1000000 in
set_option maxRecDepth 100000 in
theorem SamePack_pos (w : World) (u x : Int) (s : ByteArray) (h0 : 0 ≤ u) (h1 : u < 9223372036854775808) :
    Calls Try.prog 14 #[.agg #[.int .i64 2, .int .u64 u, .string s, .int .i64 x, .slice none 0 0], .agg #[.int .i64 3, .int .u64 u, .string s, .int .i64 x, .slice none 0 0]] w fun e w' => e = .returned (.bool true) ∧ Below w.heap.size w w' := by
  have hw : wrap64 u = u := wrap_same u h0 h1
  go_enter Try.func14, Try.ntmps14
  go_wp2
  refine wp_loop_rounds 1 ?_
  rw [rounds_succ]
  go_wp2
  go_ret
  exact ⟨rfl, by first | exact ((Below.refl _ w).alloc (Nat.le_refl _) _).alloc (by simp) _ | exact (((Below.refl _ w).alloc (Nat.le_refl _) _).alloc (by simp) _).setCell (by simp) _⟩

set_option maxHeartbeats 1000000 in
set_option maxRecDepth 100000 in
theorem SamePack_neg (w : World) (u x : Int) (s : ByteArray) (h0 : 9223372036854775808 ≤ u) (h1 : u < 18446744073709551616) :
    Calls Try.prog 14 #[.agg #[.int .i64 2, .int .u64 u, .string s, .int .i64 x, .slice none 0 0], .agg #[.int .i64 2, .int .u64 u, .string s, .int .i64 x, .slice none 0 0]] w fun e w' => e = .returned (.bool true) ∧ Below w.heap.size w w' := by
  have hw : wrap64 u < 0 := wrap_low u h0 h1
  go_enter Try.func14, Try.ntmps14
  go_wp2
  refine wp_loop_rounds 1 ?_
  rw [rounds_succ]
  go_wp2
  go_ret
  exact ⟨rfl, by first | exact ((Below.refl _ w).alloc (Nat.le_refl _) _).alloc (by simp) _ | exact (((Below.refl _ w).alloc (Nat.le_refl _) _).alloc (by simp) _).setCell (by simp) _⟩

end Go.Proofs.Ytfhaddnacdjpoaa
