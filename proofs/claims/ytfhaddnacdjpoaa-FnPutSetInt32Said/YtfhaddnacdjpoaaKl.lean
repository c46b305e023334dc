/- What the written integers are read as, with anything behind them. PRINTED by wip/genl.py. -/
import Derived.Test.YtfhaddnacdjpoaaKj
namespace Go.Proofs.Ytfhaddnacdjpoaa
open Go.RowKit
set_option linter.unusedVariables false

theorem takeR202 (u : Int) (h0 : 0 ≤ u) (h1 : u < 4294967296) (rest : List Int) (hrb : IsB rest) (W : World) (B c : Nat) (A : Option Addr) (h : Reads W B 1 A (202 :: (be u 4 ++ rest)).length (bs (202 :: (be u 4 ++ rest)))) (hB : B ≤ W.heap.size) (hc : (202 :: (be u 4 ++ rest)).length ≤ c) (hm : c ≤ maxLen) :
    Calls Try.prog 13 #[.slice A (202 :: (be u 4 ++ rest)).length c, .int .i64 2] W (Coded W B (pk 4 u ⟨#[]⟩ 0) rest) := by
  refine TakePack_coded W B c A 202 (be u 4 ++ rest) h hB (isB_cons (by omega) (by omega) (isB_append (isB_be _ _) hrb)) hc hm (by omega) (by omega) 4 u 0 ⟨#[]⟩ rest (fun W' c' A' h' hB' hc' hm' => ?_)
  have hl : (be u 4).length = 4 := be_length _ _
  have e := coded202 W' B c' A' (be u 4 ++ rest) h' hB' (isB_append (isB_be _ _) hrb) (by rw [List.length_append]; omega) hc' hm'
  rw [List.take_left' hl, List.drop_left' hl, valBE_be] at e
  rwa [show u % 256 ^ 4 = u by simp only [Int.reducePow]; omega] at e

theorem takeR203 (u : Int) (h0 : 0 ≤ u) (h1 : u < 18446744073709551616) (rest : List Int) (hrb : IsB rest) (W : World) (B c : Nat) (A : Option Addr) (h : Reads W B 1 A (203 :: (be u 8 ++ rest)).length (bs (203 :: (be u 8 ++ rest)))) (hB : B ≤ W.heap.size) (hc : (203 :: (be u 8 ++ rest)).length ≤ c) (hm : c ≤ maxLen) :
    Calls Try.prog 13 #[.slice A (203 :: (be u 8 ++ rest)).length c, .int .i64 2] W (Coded W B (pk 5 u ⟨#[]⟩ 0) rest) := by
  refine TakePack_coded W B c A 203 (be u 8 ++ rest) h hB (isB_cons (by omega) (by omega) (isB_append (isB_be _ _) hrb)) hc hm (by omega) (by omega) 5 u 0 ⟨#[]⟩ rest (fun W' c' A' h' hB' hc' hm' => ?_)
  have hl : (be u 8).length = 8 := be_length _ _
  have e := coded203 W' B c' A' (be u 8 ++ rest) h' hB' (isB_append (isB_be _ _) hrb) (by rw [List.length_append]; omega) hc' hm'
  rw [List.take_left' hl, List.drop_left' hl, valBE_be] at e
  rwa [show u % 256 ^ 8 = u by simp only [Int.reducePow]; omega] at e

theorem takeR204 (u : Int) (h0 : 0 ≤ u) (h1 : u < 256) (rest : List Int) (hrb : IsB rest) (W : World) (B c : Nat) (A : Option Addr) (h : Reads W B 1 A (204 :: (be u 1 ++ rest)).length (bs (204 :: (be u 1 ++ rest)))) (hB : B ≤ W.heap.size) (hc : (204 :: (be u 1 ++ rest)).length ≤ c) (hm : c ≤ maxLen) :
    Calls Try.prog 13 #[.slice A (204 :: (be u 1 ++ rest)).length c, .int .i64 2] W (Coded W B (pk 3 u ⟨#[]⟩ 0) rest) := by
  refine TakePack_coded W B c A 204 (be u 1 ++ rest) h hB (isB_cons (by omega) (by omega) (isB_append (isB_be _ _) hrb)) hc hm (by omega) (by omega) 3 u 0 ⟨#[]⟩ rest (fun W' c' A' h' hB' hc' hm' => ?_)
  have hl : (be u 1).length = 1 := be_length _ _
  have e := coded204 W' B c' A' (be u 1 ++ rest) h' hB' (isB_append (isB_be _ _) hrb) (by rw [List.length_append]; omega) hc' hm'
  rw [List.take_left' hl, List.drop_left' hl, valBE_be] at e
  rwa [show u % 256 ^ 1 = u by simp only [Int.reducePow]; omega] at e

theorem takeR205 (u : Int) (h0 : 0 ≤ u) (h1 : u < 65536) (rest : List Int) (hrb : IsB rest) (W : World) (B c : Nat) (A : Option Addr) (h : Reads W B 1 A (205 :: (be u 2 ++ rest)).length (bs (205 :: (be u 2 ++ rest)))) (hB : B ≤ W.heap.size) (hc : (205 :: (be u 2 ++ rest)).length ≤ c) (hm : c ≤ maxLen) :
    Calls Try.prog 13 #[.slice A (205 :: (be u 2 ++ rest)).length c, .int .i64 2] W (Coded W B (pk 3 u ⟨#[]⟩ 0) rest) := by
  refine TakePack_coded W B c A 205 (be u 2 ++ rest) h hB (isB_cons (by omega) (by omega) (isB_append (isB_be _ _) hrb)) hc hm (by omega) (by omega) 3 u 0 ⟨#[]⟩ rest (fun W' c' A' h' hB' hc' hm' => ?_)
  have hl : (be u 2).length = 2 := be_length _ _
  have e := coded205 W' B c' A' (be u 2 ++ rest) h' hB' (isB_append (isB_be _ _) hrb) (by rw [List.length_append]; omega) hc' hm'
  rw [List.take_left' hl, List.drop_left' hl, valBE_be] at e
  rwa [show u % 256 ^ 2 = u by simp only [Int.reducePow]; omega] at e

theorem takeR206 (u : Int) (h0 : 0 ≤ u) (h1 : u < 4294967296) (rest : List Int) (hrb : IsB rest) (W : World) (B c : Nat) (A : Option Addr) (h : Reads W B 1 A (206 :: (be u 4 ++ rest)).length (bs (206 :: (be u 4 ++ rest)))) (hB : B ≤ W.heap.size) (hc : (206 :: (be u 4 ++ rest)).length ≤ c) (hm : c ≤ maxLen) :
    Calls Try.prog 13 #[.slice A (206 :: (be u 4 ++ rest)).length c, .int .i64 2] W (Coded W B (pk 3 u ⟨#[]⟩ 0) rest) := by
  refine TakePack_coded W B c A 206 (be u 4 ++ rest) h hB (isB_cons (by omega) (by omega) (isB_append (isB_be _ _) hrb)) hc hm (by omega) (by omega) 3 u 0 ⟨#[]⟩ rest (fun W' c' A' h' hB' hc' hm' => ?_)
  have hl : (be u 4).length = 4 := be_length _ _
  have e := coded206 W' B c' A' (be u 4 ++ rest) h' hB' (isB_append (isB_be _ _) hrb) (by rw [List.length_append]; omega) hc' hm'
  rw [List.take_left' hl, List.drop_left' hl, valBE_be] at e
  rwa [show u % 256 ^ 4 = u by simp only [Int.reducePow]; omega] at e

theorem takeR207 (u : Int) (h0 : 0 ≤ u) (h1 : u < 18446744073709551616) (rest : List Int) (hrb : IsB rest) (W : World) (B c : Nat) (A : Option Addr) (h : Reads W B 1 A (207 :: (be u 8 ++ rest)).length (bs (207 :: (be u 8 ++ rest)))) (hB : B ≤ W.heap.size) (hc : (207 :: (be u 8 ++ rest)).length ≤ c) (hm : c ≤ maxLen) :
    Calls Try.prog 13 #[.slice A (207 :: (be u 8 ++ rest)).length c, .int .i64 2] W (Coded W B (pk 3 u ⟨#[]⟩ 0) rest) := by
  refine TakePack_coded W B c A 207 (be u 8 ++ rest) h hB (isB_cons (by omega) (by omega) (isB_append (isB_be _ _) hrb)) hc hm (by omega) (by omega) 3 u 0 ⟨#[]⟩ rest (fun W' c' A' h' hB' hc' hm' => ?_)
  have hl : (be u 8).length = 8 := be_length _ _
  have e := coded207 W' B c' A' (be u 8 ++ rest) h' hB' (isB_append (isB_be _ _) hrb) (by rw [List.length_append]; omega) hc' hm'
  rw [List.take_left' hl, List.drop_left' hl, valBE_be] at e
  rwa [show u % 256 ^ 8 = u by simp only [Int.reducePow]; omega] at e

theorem takeR208p (u : Int) (h0 : 0 ≤ u) (h1 : u < 128) (rest : List Int) (hrb : IsB rest) (W : World) (B c : Nat) (A : Option Addr) (h : Reads W B 1 A (208 :: (be u 1 ++ rest)).length (bs (208 :: (be u 1 ++ rest)))) (hB : B ≤ W.heap.size) (hc : (208 :: (be u 1 ++ rest)).length ≤ c) (hm : c ≤ maxLen) :
    Calls Try.prog 13 #[.slice A (208 :: (be u 1 ++ rest)).length c, .int .i64 2] W (Coded W B (pk 3 u ⟨#[]⟩ 0) rest) := by
  refine TakePack_coded W B c A 208 (be u 1 ++ rest) h hB (isB_cons (by omega) (by omega) (isB_append (isB_be _ _) hrb)) hc hm (by omega) (by omega) 3 u 0 ⟨#[]⟩ rest (fun W' c' A' h' hB' hc' hm' => ?_)
  have hl : (be u 1).length = 1 := be_length _ _
  have hv : valBE ((be u 1 ++ rest).take 1) = u := by
    rw [List.take_left' hl, valBE_be]; simp only [Int.reducePow]; omega
  have e := coded208p W' B c' A' (be u 1 ++ rest) h' hB' (isB_append (isB_be _ _) hrb) (by rw [List.length_append]; omega) hc' hm' u hv (by omega) (by omega)
  rw [List.drop_left' hl] at e
  exact e

theorem takeR208n (u : Int) (h0 : -128 ≤ u) (h1 : u < 0) (rest : List Int) (hrb : IsB rest) (W : World) (B c : Nat) (A : Option Addr) (h : Reads W B 1 A (208 :: (be u 1 ++ rest)).length (bs (208 :: (be u 1 ++ rest)))) (hB : B ≤ W.heap.size) (hc : (208 :: (be u 1 ++ rest)).length ≤ c) (hm : c ≤ maxLen) :
    Calls Try.prog 13 #[.slice A (208 :: (be u 1 ++ rest)).length c, .int .i64 2] W (Coded W B (pk 2 (u + 18446744073709551616) ⟨#[]⟩ 0) rest) := by
  refine TakePack_coded W B c A 208 (be u 1 ++ rest) h hB (isB_cons (by omega) (by omega) (isB_append (isB_be _ _) hrb)) hc hm (by omega) (by omega) 2 (u + 18446744073709551616) 0 ⟨#[]⟩ rest (fun W' c' A' h' hB' hc' hm' => ?_)
  have hl : (be u 1).length = 1 := be_length _ _
  have hv : valBE ((be u 1 ++ rest).take 1) = (u + 256) := by
    rw [List.take_left' hl, valBE_be]; simp only [Int.reducePow]; omega
  have e := coded208n W' B c' A' (be u 1 ++ rest) h' hB' (isB_append (isB_be _ _) hrb) (by rw [List.length_append]; omega) hc' hm' (u + 256) hv (by omega) (by omega)
  rw [List.drop_left' hl] at e
  rwa [show sx (u + 256) 256 = u + 18446744073709551616 by unfold sx; omega] at e

theorem takeR209p (u : Int) (h0 : 0 ≤ u) (h1 : u < 32768) (rest : List Int) (hrb : IsB rest) (W : World) (B c : Nat) (A : Option Addr) (h : Reads W B 1 A (209 :: (be u 2 ++ rest)).length (bs (209 :: (be u 2 ++ rest)))) (hB : B ≤ W.heap.size) (hc : (209 :: (be u 2 ++ rest)).length ≤ c) (hm : c ≤ maxLen) :
    Calls Try.prog 13 #[.slice A (209 :: (be u 2 ++ rest)).length c, .int .i64 2] W (Coded W B (pk 3 u ⟨#[]⟩ 0) rest) := by
  refine TakePack_coded W B c A 209 (be u 2 ++ rest) h hB (isB_cons (by omega) (by omega) (isB_append (isB_be _ _) hrb)) hc hm (by omega) (by omega) 3 u 0 ⟨#[]⟩ rest (fun W' c' A' h' hB' hc' hm' => ?_)
  have hl : (be u 2).length = 2 := be_length _ _
  have hv : valBE ((be u 2 ++ rest).take 2) = u := by
    rw [List.take_left' hl, valBE_be]; simp only [Int.reducePow]; omega
  have e := coded209p W' B c' A' (be u 2 ++ rest) h' hB' (isB_append (isB_be _ _) hrb) (by rw [List.length_append]; omega) hc' hm' u hv (by omega) (by omega)
  rw [List.drop_left' hl] at e
  exact e

theorem takeR209n (u : Int) (h0 : -32768 ≤ u) (h1 : u < 0) (rest : List Int) (hrb : IsB rest) (W : World) (B c : Nat) (A : Option Addr) (h : Reads W B 1 A (209 :: (be u 2 ++ rest)).length (bs (209 :: (be u 2 ++ rest)))) (hB : B ≤ W.heap.size) (hc : (209 :: (be u 2 ++ rest)).length ≤ c) (hm : c ≤ maxLen) :
    Calls Try.prog 13 #[.slice A (209 :: (be u 2 ++ rest)).length c, .int .i64 2] W (Coded W B (pk 2 (u + 18446744073709551616) ⟨#[]⟩ 0) rest) := by
  refine TakePack_coded W B c A 209 (be u 2 ++ rest) h hB (isB_cons (by omega) (by omega) (isB_append (isB_be _ _) hrb)) hc hm (by omega) (by omega) 2 (u + 18446744073709551616) 0 ⟨#[]⟩ rest (fun W' c' A' h' hB' hc' hm' => ?_)
  have hl : (be u 2).length = 2 := be_length _ _
  have hv : valBE ((be u 2 ++ rest).take 2) = (u + 65536) := by
    rw [List.take_left' hl, valBE_be]; simp only [Int.reducePow]; omega
  have e := coded209n W' B c' A' (be u 2 ++ rest) h' hB' (isB_append (isB_be _ _) hrb) (by rw [List.length_append]; omega) hc' hm' (u + 65536) hv (by omega) (by omega)
  rw [List.drop_left' hl] at e
  rwa [show sx (u + 65536) 65536 = u + 18446744073709551616 by unfold sx; omega] at e

theorem takeR210p (u : Int) (h0 : 0 ≤ u) (h1 : u < 2147483648) (rest : List Int) (hrb : IsB rest) (W : World) (B c : Nat) (A : Option Addr) (h : Reads W B 1 A (210 :: (be u 4 ++ rest)).length (bs (210 :: (be u 4 ++ rest)))) (hB : B ≤ W.heap.size) (hc : (210 :: (be u 4 ++ rest)).length ≤ c) (hm : c ≤ maxLen) :
    Calls Try.prog 13 #[.slice A (210 :: (be u 4 ++ rest)).length c, .int .i64 2] W (Coded W B (pk 3 u ⟨#[]⟩ 0) rest) := by
  refine TakePack_coded W B c A 210 (be u 4 ++ rest) h hB (isB_cons (by omega) (by omega) (isB_append (isB_be _ _) hrb)) hc hm (by omega) (by omega) 3 u 0 ⟨#[]⟩ rest (fun W' c' A' h' hB' hc' hm' => ?_)
  have hl : (be u 4).length = 4 := be_length _ _
  have hv : valBE ((be u 4 ++ rest).take 4) = u := by
    rw [List.take_left' hl, valBE_be]; simp only [Int.reducePow]; omega
  have e := coded210p W' B c' A' (be u 4 ++ rest) h' hB' (isB_append (isB_be _ _) hrb) (by rw [List.length_append]; omega) hc' hm' u hv (by omega) (by omega)
  rw [List.drop_left' hl] at e
  exact e

theorem takeR210n (u : Int) (h0 : -2147483648 ≤ u) (h1 : u < 0) (rest : List Int) (hrb : IsB rest) (W : World) (B c : Nat) (A : Option Addr) (h : Reads W B 1 A (210 :: (be u 4 ++ rest)).length (bs (210 :: (be u 4 ++ rest)))) (hB : B ≤ W.heap.size) (hc : (210 :: (be u 4 ++ rest)).length ≤ c) (hm : c ≤ maxLen) :
    Calls Try.prog 13 #[.slice A (210 :: (be u 4 ++ rest)).length c, .int .i64 2] W (Coded W B (pk 2 (u + 18446744073709551616) ⟨#[]⟩ 0) rest) := by
  refine TakePack_coded W B c A 210 (be u 4 ++ rest) h hB (isB_cons (by omega) (by omega) (isB_append (isB_be _ _) hrb)) hc hm (by omega) (by omega) 2 (u + 18446744073709551616) 0 ⟨#[]⟩ rest (fun W' c' A' h' hB' hc' hm' => ?_)
  have hl : (be u 4).length = 4 := be_length _ _
  have hv : valBE ((be u 4 ++ rest).take 4) = (u + 4294967296) := by
    rw [List.take_left' hl, valBE_be]; simp only [Int.reducePow]; omega
  have e := coded210n W' B c' A' (be u 4 ++ rest) h' hB' (isB_append (isB_be _ _) hrb) (by rw [List.length_append]; omega) hc' hm' (u + 4294967296) hv (by omega) (by omega)
  rw [List.drop_left' hl] at e
  rwa [show sx (u + 4294967296) 4294967296 = u + 18446744073709551616 by unfold sx; omega] at e

theorem takeR211p (u : Int) (h0 : 0 ≤ u) (h1 : u < 9223372036854775808) (rest : List Int) (hrb : IsB rest) (W : World) (B c : Nat) (A : Option Addr) (h : Reads W B 1 A (211 :: (be u 8 ++ rest)).length (bs (211 :: (be u 8 ++ rest)))) (hB : B ≤ W.heap.size) (hc : (211 :: (be u 8 ++ rest)).length ≤ c) (hm : c ≤ maxLen) :
    Calls Try.prog 13 #[.slice A (211 :: (be u 8 ++ rest)).length c, .int .i64 2] W (Coded W B (pk 3 u ⟨#[]⟩ 0) rest) := by
  refine TakePack_coded W B c A 211 (be u 8 ++ rest) h hB (isB_cons (by omega) (by omega) (isB_append (isB_be _ _) hrb)) hc hm (by omega) (by omega) 3 u 0 ⟨#[]⟩ rest (fun W' c' A' h' hB' hc' hm' => ?_)
  have hl : (be u 8).length = 8 := be_length _ _
  have hv : valBE ((be u 8 ++ rest).take 8) = u := by
    rw [List.take_left' hl, valBE_be]; simp only [Int.reducePow]; omega
  have e := coded211p W' B c' A' (be u 8 ++ rest) h' hB' (isB_append (isB_be _ _) hrb) (by rw [List.length_append]; omega) hc' hm' u hv (by omega) (by omega)
  rw [List.drop_left' hl] at e
  exact e

theorem takeR211n (u : Int) (h0 : -9223372036854775808 ≤ u) (h1 : u < 0) (rest : List Int) (hrb : IsB rest) (W : World) (B c : Nat) (A : Option Addr) (h : Reads W B 1 A (211 :: (be u 8 ++ rest)).length (bs (211 :: (be u 8 ++ rest)))) (hB : B ≤ W.heap.size) (hc : (211 :: (be u 8 ++ rest)).length ≤ c) (hm : c ≤ maxLen) :
    Calls Try.prog 13 #[.slice A (211 :: (be u 8 ++ rest)).length c, .int .i64 2] W (Coded W B (pk 2 (u + 18446744073709551616) ⟨#[]⟩ 0) rest) := by
  refine TakePack_coded W B c A 211 (be u 8 ++ rest) h hB (isB_cons (by omega) (by omega) (isB_append (isB_be _ _) hrb)) hc hm (by omega) (by omega) 2 (u + 18446744073709551616) 0 ⟨#[]⟩ rest (fun W' c' A' h' hB' hc' hm' => ?_)
  have hl : (be u 8).length = 8 := be_length _ _
  have hv : valBE ((be u 8 ++ rest).take 8) = (u + 18446744073709551616) := by
    rw [List.take_left' hl, valBE_be]; simp only [Int.reducePow]; omega
  have e := coded211n W' B c' A' (be u 8 ++ rest) h' hB' (isB_append (isB_be _ _) hrb) (by rw [List.length_append]; omega) hc' hm' (u + 18446744073709551616) hv (by omega) (by omega)
  rw [List.drop_left' hl] at e
  exact e

theorem takeR_encU (u : Int) (h0 : 0 ≤ u) (h1 : u ≤ 18446744073709551615) (rest : List Int) (hrb : IsB rest) (W : World) (B c : Nat) (A : Option Addr) (h : Reads W B 1 A (encU u ++ rest).length (bs (encU u ++ rest))) (hB : B ≤ W.heap.size) (hc : (encU u ++ rest).length ≤ c) (hm : c ≤ maxLen) :
    Calls Try.prog 13 #[.slice A (encU u ++ rest).length c, .int .i64 2] W (Coded W B (pk 3 u ⟨#[]⟩ 0) rest) := by
  by_cases u0 : u ≤ 127
  · have e : encU u ++ rest = u :: rest := by unfold encU; rw [if_pos u0]; rfl
    rw [e] at h hc ⊢
    exact TakePack_fix W B c A u rest h hB (isB_cons h0 (by omega) hrb) hc hm (by omega)
  by_cases u1 : u ≤ 255
  · have e : encU u ++ rest = 204 :: (be u 1 ++ rest) := by unfold encU; rw [if_neg u0, if_pos u1]; rfl
    rw [e] at h hc ⊢
    exact takeR204 u h0 (by omega) rest hrb W B c A h hB hc hm
  by_cases u2 : u ≤ 65535
  · have e : encU u ++ rest = 205 :: (be u 2 ++ rest) := by unfold encU; rw [if_neg u0, if_neg u1, if_pos u2]; rfl
    rw [e] at h hc ⊢
    exact takeR205 u h0 (by omega) rest hrb W B c A h hB hc hm
  by_cases u3 : u ≤ 4294967295
  · have e : encU u ++ rest = 206 :: (be u 4 ++ rest) := by unfold encU; rw [if_neg u0, if_neg u1, if_neg u2, if_pos u3]; rfl
    rw [e] at h hc ⊢
    exact takeR206 u h0 (by omega) rest hrb W B c A h hB hc hm
  have e : encU u ++ rest = 207 :: (be u 8 ++ rest) := by unfold encU; rw [if_neg u0, if_neg u1, if_neg u2, if_neg u3]; rfl
  rw [e] at h hc ⊢
  exact takeR207 u h0 (by omega) rest hrb W B c A h hB hc hm

theorem takeR_encI_pos (u : Int) (h0 : 0 ≤ u) (h1 : u ≤ 9223372036854775807) (rest : List Int) (hrb : IsB rest) (W : World) (B c : Nat) (A : Option Addr) (h : Reads W B 1 A (encI u ++ rest).length (bs (encI u ++ rest))) (hB : B ≤ W.heap.size) (hc : (encI u ++ rest).length ≤ c) (hm : c ≤ maxLen) :
    Calls Try.prog 13 #[.slice A (encI u ++ rest).length c, .int .i64 2] W (Coded W B (pk 3 u ⟨#[]⟩ 0) rest) := by
  by_cases u0 : u < -2147483648
  · omega
  by_cases u1 : u < -32768
  · omega
  by_cases u2 : u < -128
  · omega
  by_cases u3 : u < -32
  · omega
  by_cases u4 : u < 0
  · omega
  by_cases u5 : u ≤ 127
  · have e : encI u ++ rest = u :: rest := by unfold encI; rw [if_neg u0, if_neg u1, if_neg u2, if_neg u3, if_neg u4, if_pos u5]; rfl
    rw [e] at h hc ⊢
    exact TakePack_fix W B c A u rest h hB (isB_cons h0 (by omega) hrb) hc hm (by omega)
  by_cases u6 : u ≤ 32767
  · have e : encI u ++ rest = 209 :: (be u 2 ++ rest) := by unfold encI; rw [if_neg u0, if_neg u1, if_neg u2, if_neg u3, if_neg u4, if_neg u5, if_pos u6]; rfl
    rw [e] at h hc ⊢
    exact takeR209p u h0 (by omega) rest hrb W B c A h hB hc hm
  by_cases u7 : u ≤ 2147483647
  · have e : encI u ++ rest = 210 :: (be u 4 ++ rest) := by unfold encI; rw [if_neg u0, if_neg u1, if_neg u2, if_neg u3, if_neg u4, if_neg u5, if_neg u6, if_pos u7]; rfl
    rw [e] at h hc ⊢
    exact takeR210p u h0 (by omega) rest hrb W B c A h hB hc hm
  have e : encI u ++ rest = 211 :: (be u 8 ++ rest) := by unfold encI; rw [if_neg u0, if_neg u1, if_neg u2, if_neg u3, if_neg u4, if_neg u5, if_neg u6, if_neg u7]; rfl
  rw [e] at h hc ⊢
  exact takeR211p u h0 (by omega) rest hrb W B c A h hB hc hm

theorem takeR_encI_neg (u : Int) (h0 : -9223372036854775808 ≤ u) (h1 : u < 0) (rest : List Int) (hrb : IsB rest) (W : World) (B c : Nat) (A : Option Addr) (h : Reads W B 1 A (encI u ++ rest).length (bs (encI u ++ rest))) (hB : B ≤ W.heap.size) (hc : (encI u ++ rest).length ≤ c) (hm : c ≤ maxLen) :
    Calls Try.prog 13 #[.slice A (encI u ++ rest).length c, .int .i64 2] W (Coded W B (pk 2 (u + 18446744073709551616) ⟨#[]⟩ 0) rest) := by
  by_cases u0 : u < -2147483648
  · have e : encI u ++ rest = 211 :: (be u 8 ++ rest) := by unfold encI; rw [if_pos u0]; rfl
    rw [e] at h hc ⊢
    exact takeR211n u (by omega) h1 rest hrb W B c A h hB hc hm
  by_cases u1 : u < -32768
  · have e : encI u ++ rest = 210 :: (be u 4 ++ rest) := by unfold encI; rw [if_neg u0, if_pos u1]; rfl
    rw [e] at h hc ⊢
    exact takeR210n u (by omega) h1 rest hrb W B c A h hB hc hm
  by_cases u2 : u < -128
  · have e : encI u ++ rest = 209 :: (be u 2 ++ rest) := by unfold encI; rw [if_neg u0, if_neg u1, if_pos u2]; rfl
    rw [e] at h hc ⊢
    exact takeR209n u (by omega) h1 rest hrb W B c A h hB hc hm
  by_cases u3 : u < -32
  · have e : encI u ++ rest = 208 :: (be u 1 ++ rest) := by unfold encI; rw [if_neg u0, if_neg u1, if_neg u2, if_pos u3]; rfl
    rw [e] at h hc ⊢
    exact takeR208n u (by omega) h1 rest hrb W B c A h hB hc hm
  have e : encI u ++ rest = (u + 256) :: rest := by unfold encI; rw [if_neg u0, if_neg u1, if_neg u2, if_neg u3, if_pos h1]; rfl
  rw [e] at h hc ⊢
  have e2 := TakePack_neg W B c A (u + 256) rest h hB (isB_cons (by omega) (by omega) hrb) hc hm (by omega)
  rwa [show sx (u + 256) 256 = u + 18446744073709551616 by unfold sx; omega] at e2

theorem isB_encU (u : Int) (h0 : 0 ≤ u) : IsB (encU u) := by
  unfold encU
  repeat' split
  · exact isB_cons h0 (by omega) isB_nil
  all_goals exact isB_cons (by omega) (by omega) (isB_be _ _)
theorem isB_encI (u : Int) : IsB (encI u) := by
  unfold encI
  repeat' split
  all_goals first
    | exact isB_cons (by omega) (by omega) (isB_be _ _)
    | exact isB_cons (by omega) (by omega) isB_nil
end Go.Proofs.Ytfhaddnacdjpoaa
