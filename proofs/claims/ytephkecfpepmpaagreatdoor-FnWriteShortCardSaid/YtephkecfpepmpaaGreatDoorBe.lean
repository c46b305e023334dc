/- Numbers in bytes, the highest first. -/
import Derived.Test.YtephkecfpepmpaaGreatDoorKe
namespace Go.Proofs.YtephkecfpepmpaaGreatDoor
open Go.RowKit
set_option linter.unusedVariables false

theorem emod_step (u P : Int) (hp : 0 < P) : u % (P * 256) = (u / P % 256) * P + u % P := by
  have h1 := Int.emod_add_mul_ediv u P
  have h2 := Int.emod_add_mul_ediv (u / P) 256
  have h3 := Int.emod_nonneg u (show P ≠ 0 by omega)
  have h4 := Int.emod_lt_of_pos u hp
  have h5 := Int.emod_nonneg (u / P) (show (256 : Int) ≠ 0 by omega)
  have h6 := Int.emod_lt_of_pos (u / P) (show (0 : Int) < 256 by omega)
  generalize u % P = R at *
  generalize hX : u / P = X at *
  generalize X % 256 = Z at *
  generalize X / 256 = Y at *
  have h7 : Z * P ≤ 255 * P := Int.mul_le_mul_of_nonneg_right (by omega) (by omega)
  have h8 : 0 ≤ Z * P := Int.mul_nonneg h5 (by omega)
  refine ((Int.ediv_emod_unique (show 0 < P * 256 by omega)).2 ⟨?_, by omega, by omega⟩ : u / (P * 256) = Y ∧ _).2
  have h9 : P * X = P * Z + P * (256 * Y) := by rw [← h2, Int.mul_add]
  have h10 : P * 256 * Y = P * (256 * Y) := by rw [Int.mul_assoc]
  have h11 : Z * P = P * Z := Int.mul_comm _ _
  omega
theorem foldl_be (u : Int) (k : Nat) : ∀ a : Int, (be u k).foldl (fun u b => u * 256 + b) a = a * 256 ^ k + u % 256 ^ k := by
  induction k with
  | zero => intro a; simp [be, Int.emod_one]
  | succ k ih =>
    intro a
    have hp : (0 : Int) < 256 ^ k := Int.pow_pos (by omega)
    rw [be, List.foldl_cons, ih, Int.pow_succ, emod_step u _ hp]
    unfold byt
    rw [Int.add_mul, Int.mul_assoc, Int.mul_comm 256 (256 ^ k)]
    omega
theorem valBE_be (u : Int) (k : Nat) : valBE (be u k) = u % 256 ^ k := by
  unfold valBE
  rw [foldl_be]
  omega
theorem isB_be (u : Int) (k : Nat) : IsB (be u k) := by
  induction k with
  | zero => intro x hx; cases hx
  | succ k ih =>
    intro x hx
    rcases List.mem_cons.1 hx with rfl | hx
    · exact byt_range u k
    · exact ih x hx
theorem isB_cons {a : Int} {l : List Int} (h0 : 0 ≤ a) (h1 : a ≤ 255) (h : IsB l) : IsB (a :: l) := by
  intro x hx
  rcases List.mem_cons.1 hx with rfl | hx
  · exact ⟨h0, h1⟩
  · exact h x hx
theorem isB_nil : IsB [] := fun x hx => by cases hx
theorem isB_append {a b : List Int} (ha : IsB a) (hb : IsB b) : IsB (a ++ b) := fun x hx => (List.mem_append.1 hx).elim (ha x) (hb x)
end Go.Proofs.YtephkecfpepmpaaGreatDoor
