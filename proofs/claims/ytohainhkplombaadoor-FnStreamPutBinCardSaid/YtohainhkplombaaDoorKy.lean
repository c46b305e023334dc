/- msgp's Writer: WriteUint64, WriteInt64 and their thin callers: what was written grows by the number's form. PRINTED by wip/geny.py. -/
import Derived.Test.YtohainhkplombaaDoorKx
import Derived.Test.YtohainhkplombaaDoorKd
namespace Go.Proofs.YtohainhkplombaaDoor
open Go.RowKit
set_option linter.unusedVariables false

theorem byt_mod (u : Int) (k j : Nat) (h : j < k) : byt (u % 256 ^ k) j = byt u j := by
  unfold byt
  obtain ⟨d, rfl⟩ : ∃ d, k = j + (d + 1) := ⟨k - j - 1, by omega⟩
  have hj : (0 : Int) < 256 ^ j := Int.pow_pos (by omega)
  rw [Int.pow_add]
  have e : u % (256 ^ j * 256 ^ (d + 1)) / 256 ^ j = u / 256 ^ j % 256 ^ (d + 1) := by
    have h1 := Int.emod_add_mul_ediv u (256 ^ j * 256 ^ (d + 1))
    have hd : (0 : Int) < 256 ^ (d + 1) := Int.pow_pos (by omega)
    have h2 := Int.emod_nonneg u (show (256 : Int) ^ j * 256 ^ (d + 1) ≠ 0 from Int.ne_of_gt (Int.mul_pos hj hd))
    have h3 := Int.emod_lt_of_pos u (Int.mul_pos hj hd)
    generalize u % (256 ^ j * 256 ^ (d + 1)) = R at *
    generalize u / (256 ^ j * 256 ^ (d + 1)) = Q at *
    have h4 : u = R + 256 ^ j * (256 ^ (d + 1) * Q) := by rw [← Int.mul_assoc]; exact h1.symm
    rw [h4, Int.add_mul_ediv_left _ _ (by omega), Int.add_mul_emod_self_left]
    refine (Int.emod_eq_of_lt (Int.ediv_nonneg h2 (by omega)) ?_).symm
    exact Int.ediv_lt_of_lt_mul hj (by rw [Int.mul_comm]; exact h3)
  rw [e, Int.pow_succ]
  exact Int.emod_emod_of_dvd _ ⟨256 ^ d, by rw [Int.mul_comm]⟩
theorem be_mod (u : Int) (k : Nat) : ∀ n, n ≤ k → be (u % 256 ^ k) n = be u n := by
  intro n
  induction n with
  | zero => intro _; rfl
  | succ n ih => intro h; rw [be, be, byt_mod u k n (by omega), ih (by omega)]

end Go.Proofs.YtohainhkplombaaDoor
