/- What the written integers are read as: TakePack behind encU, encI. -/
import Derived.Test.YtfhaddnacdjpoaaKh
namespace Go.Proofs.Ytfhaddnacdjpoaa
open Go.RowKit
set_option linter.unusedVariables false

theorem emod_step (u P : Int) (hp : 0 < P) : u % (P * 256) = (u / P % 256) * P + u % P := by
  have h1 := Int.emod_add_mul_ediv u P
  have h2 := Int.emod_add_mul_ediv (u / P) 256
  have h3 := Int.emod_nonneg u (show P ≠ 0 by omega)
  have h4 := Int.emod_lt_of_pos u hp
  have h5 := Int.emod_nonneg (u / P) (show (256 : Int) ≠ 0 by omega)
  have h6 := Int.emod_lt_of_pos (u / P) (show (0 : Int) < 256 by omega)
  generalize u % P = R at *
  generalize hX : u / P = X at *
  generalize X % 256 = Z at *
  generalize X / 256 = Y at *
  have h7 : Z * P ≤ 255 * P := Int.mul_le_mul_of_nonneg_right (by omega) (by omega)
  have h8 : 0 ≤ Z * P := Int.mul_nonneg h5 (by omega)
  refine ((Int.ediv_emod_unique (show 0 < P * 256 by omega)).2 ⟨?_, by omega, by omega⟩ : u / (P * 256) = Y ∧ _).2
  have h9 : P * X = P * Z + P * (256 * Y) := by rw [← h2, Int.mul_add]
  have h10 : P * 256 * Y = P * (256 * Y) := by rw [Int.mul_assoc]
  have h11 : Z * P = P * Z := Int.mul_comm _ _
  omega
theorem foldl_be (u : Int) (k : Nat) : ∀ a : Int, (be u k).foldl (fun u b => u * 256 + b) a = a * 256 ^ k + u % 256 ^ k := by
  induction k with
  | zero => intro a; simp [be, Int.emod_one]
  | succ k ih =>
    intro a
    have hp : (0 : Int) < 256 ^ k := Int.pow_pos (by omega)
    rw [be, List.foldl_cons, ih, Int.pow_succ, emod_step u _ hp]
    unfold byt
    rw [Int.add_mul, Int.mul_assoc, Int.mul_comm 256 (256 ^ k)]
    omega
theorem valBE_be (u : Int) (k : Nat) : valBE (be u k) = u % 256 ^ k := by
  unfold valBE
  rw [foldl_be]
  omega
theorem isB_be (u : Int) (k : Nat) : IsB (be u k) := by
  induction k with
  | zero => intro x hx; cases hx
  | succ k ih =>
    intro x hx
    rcases List.mem_cons.1 hx with rfl | hx
    · exact byt_range u k
    · exact ih x hx
theorem isB_cons {a : Int} {l : List Int} (h0 : 0 ≤ a) (h1 : a ≤ 255) (h : IsB l) : IsB (a :: l) := by
  intro x hx
  rcases List.mem_cons.1 hx with rfl | hx
  · exact ⟨h0, h1⟩
  · exact h x hx
theorem isB_nil : IsB [] := fun x hx => by cases hx
theorem isB_append {a b : List Int} (ha : IsB a) (hb : IsB b) : IsB (a ++ b) := fun x hx => (List.mem_append.1 hx).elim (ha x) (hb x)
theorem encU_length (u : Int) : 1 ≤ (encU u).length ∧ (encU u).length ≤ 9 := by
  unfold encU
  repeat' split
  all_goals simp [be_length]
/-- PRINTED by wip/genj.py. What a code and a number behind it are read as. -/
theorem take204 (u : Int) (h0 : 0 ≤ u) (h1 : u < 256) (W : World) (B c : Nat) (A : Option Addr) (h : Reads W B 1 A (204 :: be u 1).length (bs (204 :: be u 1))) (hB : B ≤ W.heap.size) (hc : (204 :: be u 1).length ≤ c) (hm : c ≤ maxLen) :
    Calls Try.prog 13 #[.slice A (204 :: be u 1).length c, .int .i64 2] W (Coded W B (pk 3 u ⟨#[]⟩ 0) []) := by
  refine TakePack_coded W B c A 204 (be u 1) h hB (isB_cons (by omega) (by omega) (isB_be _ _)) hc hm (by omega) (by omega) 3 u 0 ⟨#[]⟩ [] (fun W' c' A' h' hB' hc' hm' => ?_)
  have hl : (be u 1).length = 1 := be_length _ _
  have e := coded204 W' B c' A' (be u 1) h' hB' (isB_be _ _) (by omega) hc' hm'
  rw [List.take_of_length_le (by omega), List.drop_eq_nil_of_le (by omega), valBE_be] at e
  rwa [show u % 256 ^ 1 = u by simp only [Int.reducePow]; omega] at e

theorem take205 (u : Int) (h0 : 0 ≤ u) (h1 : u < 65536) (W : World) (B c : Nat) (A : Option Addr) (h : Reads W B 1 A (205 :: be u 2).length (bs (205 :: be u 2))) (hB : B ≤ W.heap.size) (hc : (205 :: be u 2).length ≤ c) (hm : c ≤ maxLen) :
    Calls Try.prog 13 #[.slice A (205 :: be u 2).length c, .int .i64 2] W (Coded W B (pk 3 u ⟨#[]⟩ 0) []) := by
  refine TakePack_coded W B c A 205 (be u 2) h hB (isB_cons (by omega) (by omega) (isB_be _ _)) hc hm (by omega) (by omega) 3 u 0 ⟨#[]⟩ [] (fun W' c' A' h' hB' hc' hm' => ?_)
  have hl : (be u 2).length = 2 := be_length _ _
  have e := coded205 W' B c' A' (be u 2) h' hB' (isB_be _ _) (by omega) hc' hm'
  rw [List.take_of_length_le (by omega), List.drop_eq_nil_of_le (by omega), valBE_be] at e
  rwa [show u % 256 ^ 2 = u by simp only [Int.reducePow]; omega] at e

theorem take206 (u : Int) (h0 : 0 ≤ u) (h1 : u < 4294967296) (W : World) (B c : Nat) (A : Option Addr) (h : Reads W B 1 A (206 :: be u 4).length (bs (206 :: be u 4))) (hB : B ≤ W.heap.size) (hc : (206 :: be u 4).length ≤ c) (hm : c ≤ maxLen) :
    Calls Try.prog 13 #[.slice A (206 :: be u 4).length c, .int .i64 2] W (Coded W B (pk 3 u ⟨#[]⟩ 0) []) := by
  refine TakePack_coded W B c A 206 (be u 4) h hB (isB_cons (by omega) (by omega) (isB_be _ _)) hc hm (by omega) (by omega) 3 u 0 ⟨#[]⟩ [] (fun W' c' A' h' hB' hc' hm' => ?_)
  have hl : (be u 4).length = 4 := be_length _ _
  have e := coded206 W' B c' A' (be u 4) h' hB' (isB_be _ _) (by omega) hc' hm'
  rw [List.take_of_length_le (by omega), List.drop_eq_nil_of_le (by omega), valBE_be] at e
  rwa [show u % 256 ^ 4 = u by simp only [Int.reducePow]; omega] at e

theorem take207 (u : Int) (h0 : 0 ≤ u) (h1 : u < 18446744073709551616) (W : World) (B c : Nat) (A : Option Addr) (h : Reads W B 1 A (207 :: be u 8).length (bs (207 :: be u 8))) (hB : B ≤ W.heap.size) (hc : (207 :: be u 8).length ≤ c) (hm : c ≤ maxLen) :
    Calls Try.prog 13 #[.slice A (207 :: be u 8).length c, .int .i64 2] W (Coded W B (pk 3 u ⟨#[]⟩ 0) []) := by
  refine TakePack_coded W B c A 207 (be u 8) h hB (isB_cons (by omega) (by omega) (isB_be _ _)) hc hm (by omega) (by omega) 3 u 0 ⟨#[]⟩ [] (fun W' c' A' h' hB' hc' hm' => ?_)
  have hl : (be u 8).length = 8 := be_length _ _
  have e := coded207 W' B c' A' (be u 8) h' hB' (isB_be _ _) (by omega) hc' hm'
  rw [List.take_of_length_le (by omega), List.drop_eq_nil_of_le (by omega), valBE_be] at e
  rwa [show u % 256 ^ 8 = u by simp only [Int.reducePow]; omega] at e

theorem take208p (u : Int) (h0 : 0 ≤ u) (h1 : u < 128) (W : World) (B c : Nat) (A : Option Addr) (h : Reads W B 1 A (208 :: be u 1).length (bs (208 :: be u 1))) (hB : B ≤ W.heap.size) (hc : (208 :: be u 1).length ≤ c) (hm : c ≤ maxLen) :
    Calls Try.prog 13 #[.slice A (208 :: be u 1).length c, .int .i64 2] W (Coded W B (pk 3 u ⟨#[]⟩ 0) []) := by
  refine TakePack_coded W B c A 208 (be u 1) h hB (isB_cons (by omega) (by omega) (isB_be _ _)) hc hm (by omega) (by omega) 3 u 0 ⟨#[]⟩ [] (fun W' c' A' h' hB' hc' hm' => ?_)
  have hl : (be u 1).length = 1 := be_length _ _
  have hv : valBE ((be u 1).take 1) = u := by
    rw [List.take_of_length_le (by omega), valBE_be]; simp only [Int.reducePow]; omega
  have e := coded208p W' B c' A' (be u 1) h' hB' (isB_be _ _) (by omega) hc' hm' u hv (by omega) (by omega)
  rw [List.drop_eq_nil_of_le (by omega)] at e
  exact e

theorem take208n (u : Int) (h0 : -128 ≤ u) (h1 : u < 0) (W : World) (B c : Nat) (A : Option Addr) (h : Reads W B 1 A (208 :: be u 1).length (bs (208 :: be u 1))) (hB : B ≤ W.heap.size) (hc : (208 :: be u 1).length ≤ c) (hm : c ≤ maxLen) :
    Calls Try.prog 13 #[.slice A (208 :: be u 1).length c, .int .i64 2] W (Coded W B (pk 2 (u + 18446744073709551616) ⟨#[]⟩ 0) []) := by
  refine TakePack_coded W B c A 208 (be u 1) h hB (isB_cons (by omega) (by omega) (isB_be _ _)) hc hm (by omega) (by omega) 2 (u + 18446744073709551616) 0 ⟨#[]⟩ [] (fun W' c' A' h' hB' hc' hm' => ?_)
  have hl : (be u 1).length = 1 := be_length _ _
  have hv : valBE ((be u 1).take 1) = (u + 256) := by
    rw [List.take_of_length_le (by omega), valBE_be]; simp only [Int.reducePow]; omega
  have e := coded208n W' B c' A' (be u 1) h' hB' (isB_be _ _) (by omega) hc' hm' (u + 256) hv (by omega) (by omega)
  rw [List.drop_eq_nil_of_le (by omega)] at e
  rwa [show sx (u + 256) 256 = u + 18446744073709551616 by unfold sx; omega] at e

theorem take209p (u : Int) (h0 : 0 ≤ u) (h1 : u < 32768) (W : World) (B c : Nat) (A : Option Addr) (h : Reads W B 1 A (209 :: be u 2).length (bs (209 :: be u 2))) (hB : B ≤ W.heap.size) (hc : (209 :: be u 2).length ≤ c) (hm : c ≤ maxLen) :
    Calls Try.prog 13 #[.slice A (209 :: be u 2).length c, .int .i64 2] W (Coded W B (pk 3 u ⟨#[]⟩ 0) []) := by
  refine TakePack_coded W B c A 209 (be u 2) h hB (isB_cons (by omega) (by omega) (isB_be _ _)) hc hm (by omega) (by omega) 3 u 0 ⟨#[]⟩ [] (fun W' c' A' h' hB' hc' hm' => ?_)
  have hl : (be u 2).length = 2 := be_length _ _
  have hv : valBE ((be u 2).take 2) = u := by
    rw [List.take_of_length_le (by omega), valBE_be]; simp only [Int.reducePow]; omega
  have e := coded209p W' B c' A' (be u 2) h' hB' (isB_be _ _) (by omega) hc' hm' u hv (by omega) (by omega)
  rw [List.drop_eq_nil_of_le (by omega)] at e
  exact e

theorem take209n (u : Int) (h0 : -32768 ≤ u) (h1 : u < 0) (W : World) (B c : Nat) (A : Option Addr) (h : Reads W B 1 A (209 :: be u 2).length (bs (209 :: be u 2))) (hB : B ≤ W.heap.size) (hc : (209 :: be u 2).length ≤ c) (hm : c ≤ maxLen) :
    Calls Try.prog 13 #[.slice A (209 :: be u 2).length c, .int .i64 2] W (Coded W B (pk 2 (u + 18446744073709551616) ⟨#[]⟩ 0) []) := by
  refine TakePack_coded W B c A 209 (be u 2) h hB (isB_cons (by omega) (by omega) (isB_be _ _)) hc hm (by omega) (by omega) 2 (u + 18446744073709551616) 0 ⟨#[]⟩ [] (fun W' c' A' h' hB' hc' hm' => ?_)
  have hl : (be u 2).length = 2 := be_length _ _
  have hv : valBE ((be u 2).take 2) = (u + 65536) := by
    rw [List.take_of_length_le (by omega), valBE_be]; simp only [Int.reducePow]; omega
  have e := coded209n W' B c' A' (be u 2) h' hB' (isB_be _ _) (by omega) hc' hm' (u + 65536) hv (by omega) (by omega)
  rw [List.drop_eq_nil_of_le (by omega)] at e
  rwa [show sx (u + 65536) 65536 = u + 18446744073709551616 by unfold sx; omega] at e

theorem take210p (u : Int) (h0 : 0 ≤ u) (h1 : u < 2147483648) (W : World) (B c : Nat) (A : Option Addr) (h : Reads W B 1 A (210 :: be u 4).length (bs (210 :: be u 4))) (hB : B ≤ W.heap.size) (hc : (210 :: be u 4).length ≤ c) (hm : c ≤ maxLen) :
    Calls Try.prog 13 #[.slice A (210 :: be u 4).length c, .int .i64 2] W (Coded W B (pk 3 u ⟨#[]⟩ 0) []) := by
  refine TakePack_coded W B c A 210 (be u 4) h hB (isB_cons (by omega) (by omega) (isB_be _ _)) hc hm (by omega) (by omega) 3 u 0 ⟨#[]⟩ [] (fun W' c' A' h' hB' hc' hm' => ?_)
  have hl : (be u 4).length = 4 := be_length _ _
  have hv : valBE ((be u 4).take 4) = u := by
    rw [List.take_of_length_le (by omega), valBE_be]; simp only [Int.reducePow]; omega
  have e := coded210p W' B c' A' (be u 4) h' hB' (isB_be _ _) (by omega) hc' hm' u hv (by omega) (by omega)
  rw [List.drop_eq_nil_of_le (by omega)] at e
  exact e

theorem take210n (u : Int) (h0 : -2147483648 ≤ u) (h1 : u < 0) (W : World) (B c : Nat) (A : Option Addr) (h : Reads W B 1 A (210 :: be u 4).length (bs (210 :: be u 4))) (hB : B ≤ W.heap.size) (hc : (210 :: be u 4).length ≤ c) (hm : c ≤ maxLen) :
    Calls Try.prog 13 #[.slice A (210 :: be u 4).length c, .int .i64 2] W (Coded W B (pk 2 (u + 18446744073709551616) ⟨#[]⟩ 0) []) := by
  refine TakePack_coded W B c A 210 (be u 4) h hB (isB_cons (by omega) (by omega) (isB_be _ _)) hc hm (by omega) (by omega) 2 (u + 18446744073709551616) 0 ⟨#[]⟩ [] (fun W' c' A' h' hB' hc' hm' => ?_)
  have hl : (be u 4).length = 4 := be_length _ _
  have hv : valBE ((be u 4).take 4) = (u + 4294967296) := by
    rw [List.take_of_length_le (by omega), valBE_be]; simp only [Int.reducePow]; omega
  have e := coded210n W' B c' A' (be u 4) h' hB' (isB_be _ _) (by omega) hc' hm' (u + 4294967296) hv (by omega) (by omega)
  rw [List.drop_eq_nil_of_le (by omega)] at e
  rwa [show sx (u + 4294967296) 4294967296 = u + 18446744073709551616 by unfold sx; omega] at e

theorem take211p (u : Int) (h0 : 0 ≤ u) (h1 : u < 9223372036854775808) (W : World) (B c : Nat) (A : Option Addr) (h : Reads W B 1 A (211 :: be u 8).length (bs (211 :: be u 8))) (hB : B ≤ W.heap.size) (hc : (211 :: be u 8).length ≤ c) (hm : c ≤ maxLen) :
    Calls Try.prog 13 #[.slice A (211 :: be u 8).length c, .int .i64 2] W (Coded W B (pk 3 u ⟨#[]⟩ 0) []) := by
  refine TakePack_coded W B c A 211 (be u 8) h hB (isB_cons (by omega) (by omega) (isB_be _ _)) hc hm (by omega) (by omega) 3 u 0 ⟨#[]⟩ [] (fun W' c' A' h' hB' hc' hm' => ?_)
  have hl : (be u 8).length = 8 := be_length _ _
  have hv : valBE ((be u 8).take 8) = u := by
    rw [List.take_of_length_le (by omega), valBE_be]; simp only [Int.reducePow]; omega
  have e := coded211p W' B c' A' (be u 8) h' hB' (isB_be _ _) (by omega) hc' hm' u hv (by omega) (by omega)
  rw [List.drop_eq_nil_of_le (by omega)] at e
  exact e

theorem take211n (u : Int) (h0 : -9223372036854775808 ≤ u) (h1 : u < 0) (W : World) (B c : Nat) (A : Option Addr) (h : Reads W B 1 A (211 :: be u 8).length (bs (211 :: be u 8))) (hB : B ≤ W.heap.size) (hc : (211 :: be u 8).length ≤ c) (hm : c ≤ maxLen) :
    Calls Try.prog 13 #[.slice A (211 :: be u 8).length c, .int .i64 2] W (Coded W B (pk 2 (u + 18446744073709551616) ⟨#[]⟩ 0) []) := by
  refine TakePack_coded W B c A 211 (be u 8) h hB (isB_cons (by omega) (by omega) (isB_be _ _)) hc hm (by omega) (by omega) 2 (u + 18446744073709551616) 0 ⟨#[]⟩ [] (fun W' c' A' h' hB' hc' hm' => ?_)
  have hl : (be u 8).length = 8 := be_length _ _
  have hv : valBE ((be u 8).take 8) = (u + 18446744073709551616) := by
    rw [List.take_of_length_le (by omega), valBE_be]; simp only [Int.reducePow]; omega
  have e := coded211n W' B c' A' (be u 8) h' hB' (isB_be _ _) (by omega) hc' hm' (u + 18446744073709551616) hv (by omega) (by omega)
  rw [List.drop_eq_nil_of_le (by omega)] at e
  exact e

theorem take_encU (u : Int) (h0 : 0 ≤ u) (h1 : u ≤ 18446744073709551615) (W : World) (B c : Nat) (A : Option Addr) (h : Reads W B 1 A (encU u).length (bs (encU u))) (hB : B ≤ W.heap.size) (hc : (encU u).length ≤ c) (hm : c ≤ maxLen) :
    Calls Try.prog 13 #[.slice A (encU u).length c, .int .i64 2] W (Coded W B (pk 3 u ⟨#[]⟩ 0) []) := by
  by_cases u0 : u ≤ 127
  · have e : encU u = [u] := by unfold encU; rw [if_pos u0]
    rw [e] at h hc ⊢
    exact TakePack_fix W B c A u [] h hB (isB_cons h0 (by omega) isB_nil) hc hm (by omega)
  by_cases u1 : u ≤ 255
  · have e : encU u = 204 :: be u 1 := by unfold encU; rw [if_neg u0, if_pos u1]
    rw [e] at h hc ⊢
    exact take204 u h0 (by omega) W B c A h hB hc hm
  by_cases u2 : u ≤ 65535
  · have e : encU u = 205 :: be u 2 := by unfold encU; rw [if_neg u0, if_neg u1, if_pos u2]
    rw [e] at h hc ⊢
    exact take205 u h0 (by omega) W B c A h hB hc hm
  by_cases u3 : u ≤ 4294967295
  · have e : encU u = 206 :: be u 4 := by unfold encU; rw [if_neg u0, if_neg u1, if_neg u2, if_pos u3]
    rw [e] at h hc ⊢
    exact take206 u h0 (by omega) W B c A h hB hc hm
  have e : encU u = 207 :: be u 8 := by unfold encU; rw [if_neg u0, if_neg u1, if_neg u2, if_neg u3]
  rw [e] at h hc ⊢
  exact take207 u h0 (by omega) W B c A h hB hc hm

theorem take_encI_pos (u : Int) (h0 : 0 ≤ u) (h1 : u ≤ 9223372036854775807) (W : World) (B c : Nat) (A : Option Addr) (h : Reads W B 1 A (encI u).length (bs (encI u))) (hB : B ≤ W.heap.size) (hc : (encI u).length ≤ c) (hm : c ≤ maxLen) :
    Calls Try.prog 13 #[.slice A (encI u).length c, .int .i64 2] W (Coded W B (pk 3 u ⟨#[]⟩ 0) []) := by
  by_cases u0 : u < -2147483648
  · have e : encI u = 211 :: be u 8 := by unfold encI; rw [if_pos u0]
    rw [e] at h hc ⊢
    omega
  by_cases u1 : u < -32768
  · have e : encI u = 210 :: be u 4 := by unfold encI; rw [if_neg u0, if_pos u1]
    rw [e] at h hc ⊢
    omega
  by_cases u2 : u < -128
  · have e : encI u = 209 :: be u 2 := by unfold encI; rw [if_neg u0, if_neg u1, if_pos u2]
    rw [e] at h hc ⊢
    omega
  by_cases u3 : u < -32
  · have e : encI u = 208 :: be u 1 := by unfold encI; rw [if_neg u0, if_neg u1, if_neg u2, if_pos u3]
    rw [e] at h hc ⊢
    omega
  by_cases u4 : u < 0
  · have e : encI u = [u + 256] := by unfold encI; rw [if_neg u0, if_neg u1, if_neg u2, if_neg u3, if_pos u4]
    rw [e] at h hc ⊢
    omega
  by_cases u5 : u ≤ 127
  · have e : encI u = [u] := by unfold encI; rw [if_neg u0, if_neg u1, if_neg u2, if_neg u3, if_neg u4, if_pos u5]
    rw [e] at h hc ⊢
    exact TakePack_fix W B c A u [] h hB (isB_cons (by omega) (by omega) isB_nil) hc hm (by omega)
  by_cases u6 : u ≤ 32767
  · have e : encI u = 209 :: be u 2 := by unfold encI; rw [if_neg u0, if_neg u1, if_neg u2, if_neg u3, if_neg u4, if_neg u5, if_pos u6]
    rw [e] at h hc ⊢
    exact take209p u (by omega) (by omega) W B c A h hB hc hm
  by_cases u7 : u ≤ 2147483647
  · have e : encI u = 210 :: be u 4 := by unfold encI; rw [if_neg u0, if_neg u1, if_neg u2, if_neg u3, if_neg u4, if_neg u5, if_neg u6, if_pos u7]
    rw [e] at h hc ⊢
    exact take210p u (by omega) (by omega) W B c A h hB hc hm
  have e : encI u = 211 :: be u 8 := by unfold encI; rw [if_neg u0, if_neg u1, if_neg u2, if_neg u3, if_neg u4, if_neg u5, if_neg u6, if_neg u7]
  rw [e] at h hc ⊢
  exact take211p u (by omega) (by omega) W B c A h hB hc hm

theorem take_encI_neg (u : Int) (h0 : -9223372036854775808 ≤ u) (h1 : u < 0) (W : World) (B c : Nat) (A : Option Addr) (h : Reads W B 1 A (encI u).length (bs (encI u))) (hB : B ≤ W.heap.size) (hc : (encI u).length ≤ c) (hm : c ≤ maxLen) :
    Calls Try.prog 13 #[.slice A (encI u).length c, .int .i64 2] W (Coded W B (pk 2 (u + 18446744073709551616) ⟨#[]⟩ 0) []) := by
  by_cases u0 : u < -2147483648
  · have e : encI u = 211 :: be u 8 := by unfold encI; rw [if_pos u0]
    rw [e] at h hc ⊢
    exact take211n u (by omega) (by omega) W B c A h hB hc hm
  by_cases u1 : u < -32768
  · have e : encI u = 210 :: be u 4 := by unfold encI; rw [if_neg u0, if_pos u1]
    rw [e] at h hc ⊢
    exact take210n u (by omega) (by omega) W B c A h hB hc hm
  by_cases u2 : u < -128
  · have e : encI u = 209 :: be u 2 := by unfold encI; rw [if_neg u0, if_neg u1, if_pos u2]
    rw [e] at h hc ⊢
    exact take209n u (by omega) (by omega) W B c A h hB hc hm
  by_cases u3 : u < -32
  · have e : encI u = 208 :: be u 1 := by unfold encI; rw [if_neg u0, if_neg u1, if_neg u2, if_pos u3]
    rw [e] at h hc ⊢
    exact take208n u (by omega) (by omega) W B c A h hB hc hm
  have e : encI u = [u + 256] := by unfold encI; rw [if_neg u0, if_neg u1, if_neg u2, if_neg u3, if_pos h1]
  rw [e] at h hc ⊢
  have e2 := TakePack_neg W B c A (u + 256) [] h hB (isB_cons (by omega) (by omega) isB_nil) hc hm (by omega)
  rwa [show sx (u + 256) 256 = u + 18446744073709551616 by unfold sx; omega] at e2

theorem encI_length (u : Int) : 1 ≤ (encI u).length ∧ (encI u).length ≤ 9 := by
  unfold encI
  repeat' split
  all_goals simp [be_length]

end Go.Proofs.Ytfhaddnacdjpoaa
