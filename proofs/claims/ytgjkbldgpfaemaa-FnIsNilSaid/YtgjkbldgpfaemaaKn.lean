/- The law FnIsNil: the walk. -/
import Derived.Test.YtgjkbldgpfaemaaKa
import Derived.Test.YtgjkbldgpfaemaaProg
import Derived.Lib.Hide
import Derived.Deep.DeepMust
namespace Go.Proofs.Ytgjkbldgpfaemaa
open Go.RowKit
set_option linter.unusedVariables false

set_option maxHeartbeats 1000000 in
theorem isNil_some (w : World) (ad : Addr) (n c : Nat) (b : Int) (hn : 0 < n) (hm : n ≤ 9223372036854775807) (hc : w.cell? ad = some (.int .u8 b)) :
    Calls Try.prog 10 #[.slice (some ad) n c] w fun e w' => e = .returned (.bool (b == 192)) ∧ w = w' := by
  have hd : ((n : Int) == 0) = false := by rw [beq_eq_false_iff_ne]; omega
  by_cases hb : b = 192
  · have h1 : (b == 192) = true := by simpa using hb
    clear hb
    go_enter Try.func10, Try.ntmps10
    go_wp2
    go_ret
    exact ⟨by rw [h1]; rfl, rfl⟩
  · have h1 : (b == 192) = false := by simpa using hb
    go_enter Try.func10, Try.ntmps10
    go_wp2
    go_ret
    exact ⟨by rw [h1]; rfl, rfl⟩
theorem isNil_none (w : World) (A : Option Addr) (c : Nat) :
    Calls Try.prog 10 #[.slice A 0 c] w fun e w' => e = .returned (.bool false) ∧ w = w' := by
  go_enter Try.func10, Try.ntmps10
  go_wp2
  go_ret
  exact ⟨rfl, rfl⟩

set_option maxHeartbeats 1000000 in
theorem FnIsNil_walk (w : World) (A : Option Addr) (c : Nat) (l : List Int) (h : Reads w w.heap.size 1 A l.length (bs l)) (hc : l.length ≤ c) (hm : c ≤ maxLen) :
    Calls Try.prog 3 #[.slice A l.length c] w fun e w' => e = .returned (.bool true) ∧ Below w.heap.size w w' := by
  have hm' : c ≤ 9223372036854775807 := by unfold maxLen at hm; omega
  by_cases hz : 2147483647 < l.length
  · have hd : decide ((2147483647 : Int) < (l.length : Int)) = true := by simp; omega
    go_enter Try.func3, Try.ntmps3
    go_wp2
    go_ret
    exact ⟨rfl, Below.refl _ _⟩
  · have hd : decide ((2147483647 : Int) < (l.length : Int)) = false := by simp; omega
    by_cases h0 : l.length = 0
    · rw [h0]
      clear h hd hz h0 hc
      go_enter Try.func3, Try.ntmps3
      go_wp2_with (first
        | (go_at_call 10; (with_reducible refine (isNil_none _ A _).mono ?_); rintro e w' ⟨rfl, rfl⟩)
        | (go_at_call 10; refine (isNil_some _ ⟨w.heap.size, 0, none⟩ 2 2 192 (by omega) (by omega) (by simp)).mono ?_; rintro e w' ⟨rfl, rfl⟩))
      go_ret
      exact ⟨rfl, (Below.refl _ _).alloc (Nat.le_refl _) _⟩
    · have hpos : 0 < l.length := by omega
      have hdp : decide (0 < l.length) = true := by simp; omega
      have hdi : decide (0 < (l.length : Int)) = true := by simp; omega
      obtain ⟨ad, rfl, hadB, hcell⟩ := h.byte (k := 0) hpos
      rw [Addr.add_zero'] at hcell
      generalize l.getD 0 0 = b at hcell
      clear h h0
      by_cases hb : b = 192
      all_goals
        first
        | have hbb : (b == 192) = true := by simpa using hb
        | have hbb : (b == 192) = false := by simpa using hb
        clear hb
        go_enter Try.func3, Try.ntmps3
        go_wp2_with (first
          | (go_at_call 10; (with_reducible refine (isNil_some w ad l.length c b hpos (by omega) hcell).mono ?_); rintro e w' ⟨rfl, rfl⟩)
          | (go_at_call 10; refine (isNil_some _ ⟨w.heap.size, 0, none⟩ 2 2 192 (by omega) (by omega) (by simp)).mono ?_; rintro e w' ⟨rfl, rfl⟩))
        go_ret
        exact ⟨rfl, (Below.refl _ _).alloc (Nat.le_refl _) _⟩
end Go.Proofs.Ytgjkbldgpfaemaa
