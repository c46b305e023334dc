/- AMQP: PeekMessageType, PeekSection. -/
import Derived.Test.YtpkfmcnbodnpeaaKd
import Derived.BigQuiet
import Derived.Deep.RegionHeld3
namespace Go.Proofs.Ytpkfmcnbodnpeaa
open Go.RowKit
set_option linter.unusedVariables false

theorem or0_u64 (u : Int) (h0 : 0 ≤ u) (h1 : u ≤ 255) : bits .or .u64 u 0 = u := u8_all (p := fun u => bits .or .u64 u 0 = u) (by decide +kernel) u h0 h1

set_option maxHeartbeats 1000000 in
set_option maxRecDepth 100000 in
theorem uint64_calls (w : World) (g c : Nat) (code : Int) (h0 : 0 ≤ code) (h1 : code ≤ 255) (hg : g < w.heap.size)
    (q0 : w.cell? ⟨g, 2, none⟩ = some (.int .u8 0)) (q1 : w.cell? ⟨g, 3, none⟩ = some (.int .u8 0)) (q2 : w.cell? ⟨g, 4, none⟩ = some (.int .u8 0)) (q3 : w.cell? ⟨g, 5, none⟩ = some (.int .u8 0)) (q4 : w.cell? ⟨g, 6, none⟩ = some (.int .u8 0)) (q5 : w.cell? ⟨g, 7, none⟩ = some (.int .u8 0)) (q6 : w.cell? ⟨g, 8, none⟩ = some (.int .u8 0)) (q7 : w.cell? ⟨g, 9, none⟩ = some (.int .u8 code)) :
    Calls Try.prog 14 #[.agg #[], .slice (some ⟨g, 2, none⟩) 8 c] w fun e w' => e = .returned (.int .u64 code) ∧ Below w.heap.size w w' := by
  have hor := or0_u64 code h0 h1
  go_enter Try.func14, Try.ntmps14
  go_wp2
  go_quiet (fail)
  go_wp2
  go_ret
  exact ⟨rfl, below_drewN ((Below.refl _ w).alloc (Nat.le_refl _) _) nq⟩

set_option maxHeartbeats 1000000 in
set_option maxRecDepth 100000 in
theorem peek_short (w : World) (g n c : Nat) (code : Int) (h0 : 0 ≤ code) (h1 : code ≤ 255) (hn : 3 ≤ n) (hc : n ≤ c) (hm : c ≤ maxLen)
    (q0 : w.cell? ⟨g, 0, none⟩ = some (.int .u8 0)) (q1 : w.cell? ⟨g, 1, none⟩ = some (.int .u8 83)) (q2 : w.cell? ⟨g, 2, none⟩ = some (.int .u8 code)) :
    Calls Try.prog 8 #[.slice (some ⟨g, 0, none⟩) n c] w fun e w' => e = .returned (.tuple #[.int .u8 code, .int .u8 3, .nilIface]) ∧ w = w' := by
  have hm' : c ≤ 9223372036854775807 := by unfold maxLen at hm; omega
  have hd : decide ((n : Int) < 3) = false := by simp; omega
  have hd' : decide (n < 3) = false := by simp; omega
  have hc2 : ¬ c = 2 := by omega
  go_enter Try.func8, Try.ntmps8
  go_wp2
  go_ret3
  exact ⟨rfl, rfl⟩

set_option maxHeartbeats 1000000 in
set_option maxRecDepth 100000 in
theorem peek_long (w : World) (g n c : Nat) (code : Int) (h0 : 0 ≤ code) (h1 : code ≤ 255) (hg : g < w.heap.size) (hn : 10 ≤ n) (hc : n ≤ c) (hm : c ≤ maxLen)
    (p0 : w.cell? ⟨g, 0, none⟩ = some (.int .u8 0)) (p1 : w.cell? ⟨g, 1, none⟩ = some (.int .u8 128))
    (q0 : w.cell? ⟨g, 2, none⟩ = some (.int .u8 0)) (q1 : w.cell? ⟨g, 3, none⟩ = some (.int .u8 0)) (q2 : w.cell? ⟨g, 4, none⟩ = some (.int .u8 0)) (q3 : w.cell? ⟨g, 5, none⟩ = some (.int .u8 0)) (q4 : w.cell? ⟨g, 6, none⟩ = some (.int .u8 0)) (q5 : w.cell? ⟨g, 7, none⟩ = some (.int .u8 0)) (q6 : w.cell? ⟨g, 8, none⟩ = some (.int .u8 0)) (q7 : w.cell? ⟨g, 9, none⟩ = some (.int .u8 code)) :
    Calls Try.prog 8 #[.slice (some ⟨g, 0, none⟩) n c] w fun e w' => e = .returned (.tuple #[.int .u8 code, .int .u8 10, .nilIface]) ∧ Below w.heap.size w w' := by
  have hm' : c ≤ 9223372036854775807 := by unfold maxLen at hm; omega
  have hd : decide ((n : Int) < 3) = false := by simp; omega
  have hd' : decide (n < 3) = false := by simp; omega
  have hd2 : decide (n - 2 < 8) = false := by simp; omega
  have hc2 : ¬ c = 2 := by omega
  have hc10 : (10 : Nat) ≤ c := by omega
  have hc10' : (10 : Int) ≤ (c : Int) := by omega
  have hc10'' : ¬ ((c : Int) < 10) := by omega
  have hdc : decide ((10 : Int) ≤ (c : Int)) = true := by simp; omega
  have hwr : IntKind.u8.wrap code = code := by rw [IntKind.wrap_u8]; omega
  have hld : ∀ w, (loadVar 49 ⟨0, 0, none⟩).run Try.prog w = .ok (.agg #[]) w := fun w => by kernel_rfl
  go_enter Try.func8, Try.ntmps8
  go_wp2
  have kA : Below w.heap.size w w.drew := (Below.refl _ _).drew
  go_region_held3 (fun W => Below w.heap.size w W) (first | assumption | exact kA) (first
    | (go_at_call 14
       refine (uint64_calls w.drew g _ code h0 h1 hg q0 q1 q2 q3 q4 q5 q6 q7).mono ?_
       rintro e w1 ⟨rfl, hb1⟩
       have hS1 : Below w.heap.size w w1 := kA.trans hb1))
  go_wp2
  go_ret3
  exact ⟨rfl, hS1⟩
end Go.Proofs.Ytpkfmcnbodnpeaa
