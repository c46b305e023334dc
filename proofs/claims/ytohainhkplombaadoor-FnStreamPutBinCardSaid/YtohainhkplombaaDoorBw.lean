/- msgp's Writer: avail. -/
import Derived.Test.YtohainhkplombaaDoorBf
namespace Go.Proofs.YtohainhkplombaaDoor
open Go.RowKit
set_option linter.unusedVariables false

theorem reads_frm {W W' : World} {gw gb gt n : Nat} {v v' : Value} {A : Option Addr} {l : List Value} (h : Reads W W.heap.size 1 A n l) (hf : Frm W W' gw gb gt v v') (hA : ∀ ad, A = some ad → ad.block ≠ gw ∧ ad.block ≠ gb ∧ ad.block ≠ gt ∧ some ad.block ≠ v.ownBlock) : Reads W' W'.heap.size 1 A n l := by
  refine ⟨h.1, fun h0 => ?_⟩
  obtain ⟨ad, hAd, hB, hc⟩ := h.2 h0
  obtain ⟨a, b, c, d⟩ := hA ad hAd
  refine ⟨ad, hAd, Nat.lt_of_lt_of_le hB hf.size, fun j u hu => ?_⟩
  exact (World.cell?_of_block (a := ad.add j) (by rw [block_of_add]; exact hf.at_ _ hB a b c d)).trans (hc j u hu)

set_option maxHeartbeats 2000000 in
theorem avail_calls (w0 W : World) (B gw gb gt : Nat) (cs : List Value) (v : Value) (out pend : List Int) (h : WP w0 W B gw gb gt cs v out pend) :
    Calls Tryd.prog 27 #[.pointer (some ⟨gw, 0, none⟩)] W fun e W' => e = .returned (.int .i64 ((cs.length : Int) - (pend.length : Int))) ∧ ∃ n, W' = W.drewN n := by
  have hle := h.le
  have hhi := h.hi
  obtain ⟨q0, q1, q2⟩ := wp_cells h
  clear h
  go_enter Tryd.func27, Tryd.ntmps27
  go_wp2
  go_quiet (fail)
  go_wp2
  go_ret
  exact ⟨rfl, _, rfl⟩
end Go.Proofs.YtohainhkplombaaDoor
