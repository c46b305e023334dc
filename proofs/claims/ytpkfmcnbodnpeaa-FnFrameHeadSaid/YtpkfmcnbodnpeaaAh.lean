/- AMQP: the Buffer: New, readCheck, Next, Bytes. (For FnFrameHead.) -/
import Derived.Test.YtpkfmcnbodnpeaaAp
namespace Go.Proofs.Ytpkfmcnbodnpeaa
open Go.RowKit
set_option linter.unusedVariables false

/-- Block gb of W is a Buffer over a slice, read up to i. -/
def Bf (W : World) (gb : Nat) (A : Option Addr) (n c i : Nat) : Prop := Blk W gb 52 [.slice A n c, .int .i64 i]

theorem New_calls (w : World) (A : Option Addr) (n c : Nat) :
    Calls Try.prog 10 #[.slice A n c] w fun e w' => e = .returned (.pointer (some ⟨w.heap.size, 0, none⟩)) ∧ Bf w' w.heap.size A n c 0 ∧ Below w.heap.size w w' := by
  go_enter Try.func10, Try.ntmps10
  go_wp2
  go_ret
  exact ⟨rfl, Blk.new w _ [_, _], (Below.refl _ w).alloc (Nat.le_refl _) _⟩

set_option maxHeartbeats 1000000 in
theorem readCheck_calls (w : World) (gb : Nat) (A : Option Addr) (n c i k : Nat) (h : Bf w gb A n c i) (hn : n ≤ 1000000) (hi : i ≤ 1000000) (hk : k ≤ 1000000) :
    Calls Try.prog 18 #[.pointer (some ⟨gb, 0, none⟩), .int .i64 k] w fun e w' => e = .returned (.bool (decide (n < i + k))) ∧ ∃ m, w' = w.drewN m := by
  have q0 : w.cell? ⟨gb, 0, none⟩ = some (.slice A n c) := h.cell 0
  have q1 : w.cell? ⟨gb, 1, none⟩ = some (.int .i64 i) := h.cell 1
  have hg := h.lt
  have hw : wrap64 ((i : Int) + k) = (i : Int) + k := by unfold wrap64; omega
  go_enter Try.func18, Try.ntmps18
  go_wp2
  go_quiet (fail)
  go_wp2
  go_ret
  refine ⟨?_, nq, rfl⟩
  congr 2
  simp
  omega

set_option maxHeartbeats 1000000 in
set_option maxRecDepth 100000 in
theorem Next_yes (w : World) (gb g n c : Nat) (h : Bf w gb (some ⟨g, 0, none⟩) n c 0) (hn : n ≤ 1000000) (h8 : 8 ≤ n) (hc : n ≤ c) (hm : c ≤ maxLen) :
    Calls Try.prog 15 #[.pointer (some ⟨gb, 0, none⟩), .int .i64 8] w fun e w' => e = .returned (.tuple #[.slice (some ⟨g, 0, none⟩) 8 c, .bool true]) ∧ ∃ m, w' = (w.drewN m).setCell ⟨gb, 1, none⟩ (.int .i64 8) := by
  have q0 : w.cell? ⟨gb, 0, none⟩ = some (.slice (some ⟨g, 0, none⟩) n c) := h.cell 0
  have q1 : w.cell? ⟨gb, 1, none⟩ = some (.int .i64 0) := h.cell 1
  have f1 := h.frozen 1
  have hg := h.lt
  have hm' : c ≤ 9223372036854775807 := by unfold maxLen at hm; omega
  have hc0 : ¬ c = 0 := by omega
  have hd : decide (n < 0 + 8) = false := by simp; omega
  have hc8 : (8 : Nat) ≤ c := by omega
  have hc8' : (8 : Int) ≤ (c : Int) := by omega
  have HB := Lib.hid h
  clear h
  go_enter Try.func15, Try.ntmps15
  go_wp2_with (
    (go_at_call 18)
    go_must (
      (refine (readCheck_calls w gb (some ⟨g, 0, none⟩) n c 0 8 HB.out hn (by omega) (by omega)).mono ?_)
      rintro e w1 ⟨he, m, rfl⟩
      rw [hd] at he
      subst he))
  go_quiet (fail)
  go_wp2
  go_ret2
  exact ⟨rfl, _, rfl⟩

set_option maxHeartbeats 1000000 in
set_option maxRecDepth 100000 in
theorem Next_no (w : World) (gb g n c : Nat) (h : Bf w gb (some ⟨g, 0, none⟩) n c 0) (h8 : n < 8) (hc : n ≤ c) (hm : c ≤ maxLen) :
    Calls Try.prog 15 #[.pointer (some ⟨gb, 0, none⟩), .int .i64 8] w fun e w' => (∃ v, e = .returned (.tuple #[v, .bool false])) ∧ ∃ m, w' = (w.drewN m).setCell ⟨gb, 1, none⟩ (.int .i64 n) := by
  have q0 : w.cell? ⟨gb, 0, none⟩ = some (.slice (some ⟨g, 0, none⟩) n c) := h.cell 0
  have q1 : w.cell? ⟨gb, 1, none⟩ = some (.int .i64 0) := h.cell 1
  have f1 := h.frozen 1
  have hg := h.lt
  have hm' : c ≤ 9223372036854775807 := by unfold maxLen at hm; omega
  have hd : decide (n < 0 + 8) = true := by simp; omega
  have hc' : (n : Int) ≤ (c : Int) := by omega
  have HB := Lib.hid h
  clear h
  by_cases hc0 : c = 0
  all_goals
    go_enter Try.func15, Try.ntmps15
    go_wp2_with (
      (go_at_call 18)
      go_must (
        (refine (readCheck_calls w gb (some ⟨g, 0, none⟩) n c 0 8 HB.out (by omega) (by omega) (by omega)).mono ?_)
        rintro e w1 ⟨he, m, rfl⟩
        rw [hd] at he
        subst he))
    go_quiet (fail)
    go_wp2
    go_ret2
    exact ⟨⟨_, rfl⟩, _, rfl⟩

set_option maxHeartbeats 1000000 in
set_option maxRecDepth 100000 in
theorem Bytes_calls (w : World) (gb g n c : Nat) (h : Bf w gb (some ⟨g, 0, none⟩) n c 8) (h8 : 8 ≤ n) (hc : n ≤ c) (hm : c ≤ maxLen) :
    Calls Try.prog 12 #[.pointer (some ⟨gb, 0, none⟩)] w fun e w' => e = .returned (.slice (if c = 8 then some ⟨g, 0, none⟩ else some ⟨g, 8, none⟩) (n - 8) (c - 8)) ∧ ∃ m, w' = w.drewN m := by
  have q0 : w.cell? ⟨gb, 0, none⟩ = some (.slice (some ⟨g, 0, none⟩) n c) := h.cell 0
  have q1 : w.cell? ⟨gb, 1, none⟩ = some (.int .i64 8) := h.cell 1
  have hg := h.lt
  have hm' : c ≤ 9223372036854775807 := by unfold maxLen at hm; omega
  have hc' : (8 : Int) ≤ (n : Int) := by omega
  clear h
  by_cases hc8 : c = 8
  all_goals
    go_enter Try.func12, Try.ntmps12
    go_wp2
    go_quiet (fail)
    go_wp2
    go_ret
    refine ⟨?_, nq, rfl⟩
    first | rfl | (rw [if_pos hc8]; rfl) | (rw [if_neg hc8]; rfl) | (simp [hc8]; done)
end Go.Proofs.Ytpkfmcnbodnpeaa
