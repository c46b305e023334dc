/- What written bytes are read as, with anything behind them. PRINTED by wip/genbl.py. -/
import Derived.Test.YtohainhkplombaaDoorKq
import Derived.Test.YtohainhkplombaaDoorKj
namespace Go.Proofs.YtohainhkplombaaDoor
open Go.RowKit
set_option linter.unusedVariables false

def binHead (n : Int) : List Int := if n ≤ 255 then 196 :: be n 1 else if n ≤ 65535 then 197 :: be n 2 else 198 :: be n 4
theorem binHead_len (n : Int) : (binHead n).length ≤ 5 := by
  unfold binHead
  repeat' split
  all_goals simp [be_length]
theorem isB_binHead (n : Nat) : IsB (binHead n) := by
  unfold binHead
  split
  · exact isB_cons (by omega) (by omega) (isB_be _ _)
  · split
    · exact isB_cons (by omega) (by omega) (isB_be _ _)
    · exact isB_cons (by omega) (by omega) (isB_be _ _)
/-- Bytes, written. -/
def encT (r : List Int) : List Int := binHead r.length ++ r
theorem isB_encT {r : List Int} (h : IsB r) : IsB (encT r) := isB_append (isB_binHead _) h
theorem take_binR (r : List Int) (hr : IsB r) (hrl : r.length ≤ 16777216) (rest : List Int) (hrest : IsB rest) (W : World) (B c : Nat) (A : Option Addr) (h : Reads W B 1 A (encT r ++ rest).length (bs (encT r ++ rest))) (hB : B ≤ W.heap.size) (hc : (encT r ++ rest).length ≤ c) (hm : c ≤ maxLen) :
    Calls Tryd.prog 11 #[.slice A (encT r ++ rest).length c, .int .i64 2] W (Coded W B (.agg #[.int .i64 7, .int .u64 0, .string (strOfNums r), .int .i64 0, .slice none 0 0]) rest) := by
  have hb2 : IsB (r ++ rest) := isB_append hr hrest
  have k1 : (r ++ rest).take r.length = r := List.take_left' rfl
  have k2 : (r ++ rest).drop r.length = rest := List.drop_left' rfl
  by_cases u0 : (r.length : Int) ≤ 255
  · have e : encT r ++ rest = 196 :: (be r.length 1 ++ (r ++ rest)) := by
      unfold encT binHead
      rw [if_pos u0]
      simp
    rw [e] at h hc ⊢
    have hl : (be (r.length : Int) 1).length = 1 := be_length _ _
    have t1 : (be (r.length : Int) 1 ++ (r ++ rest)).take 1 = be r.length 1 := List.take_left' hl
    have t2 : (be (r.length : Int) 1 ++ (r ++ rest)).drop 1 = r ++ rest := List.drop_left' hl
    refine TakePack_coded W B c A 196 (be r.length 1 ++ (r ++ rest)) h hB (isB_cons (by omega) (by omega) (isB_append (isB_be _ _) hb2)) hc hm (by omega) (by omega) 7 0 0 (strOfNums r) rest (fun W' c' A' h' hB' hc' hm' => ?_)
    have e2 := coded196 W' B c' r.length A' (be r.length 1 ++ (r ++ rest)) h' hB' (isB_append (isB_be _ _) hb2) (by simp [be_length]) hc' hm' (by rw [t1, valBE_be]; simp only [Int.reducePow]; omega) (by simp [be_length])
    rw [t2, k1, k2] at e2
    exact e2
  · by_cases u1 : (r.length : Int) ≤ 65535
    · have e : encT r ++ rest = 197 :: (be r.length 2 ++ (r ++ rest)) := by
        unfold encT binHead
        rw [if_neg u0, if_pos u1]
        simp
      rw [e] at h hc ⊢
      have hl : (be (r.length : Int) 2).length = 2 := be_length _ _
      have t1 : (be (r.length : Int) 2 ++ (r ++ rest)).take 2 = be r.length 2 := List.take_left' hl
      have t2 : (be (r.length : Int) 2 ++ (r ++ rest)).drop 2 = r ++ rest := List.drop_left' hl
      refine TakePack_coded W B c A 197 (be r.length 2 ++ (r ++ rest)) h hB (isB_cons (by omega) (by omega) (isB_append (isB_be _ _) hb2)) hc hm (by omega) (by omega) 7 0 0 (strOfNums r) rest (fun W' c' A' h' hB' hc' hm' => ?_)
      have e2 := coded197 W' B c' r.length A' (be r.length 2 ++ (r ++ rest)) h' hB' (isB_append (isB_be _ _) hb2) (by simp [be_length]) hc' hm' (by rw [t1, valBE_be]; simp only [Int.reducePow]; omega) (by simp [be_length])
      rw [t2, k1, k2] at e2
      exact e2
    · have e : encT r ++ rest = 198 :: (be r.length 4 ++ (r ++ rest)) := by
        unfold encT binHead
        rw [if_neg u0, if_neg u1]
        simp
      rw [e] at h hc ⊢
      have hl : (be (r.length : Int) 4).length = 4 := be_length _ _
      have t1 : (be (r.length : Int) 4 ++ (r ++ rest)).take 4 = be r.length 4 := List.take_left' hl
      have t2 : (be (r.length : Int) 4 ++ (r ++ rest)).drop 4 = r ++ rest := List.drop_left' hl
      refine TakePack_coded W B c A 198 (be r.length 4 ++ (r ++ rest)) h hB (isB_cons (by omega) (by omega) (isB_append (isB_be _ _) hb2)) hc hm (by omega) (by omega) 7 0 0 (strOfNums r) rest (fun W' c' A' h' hB' hc' hm' => ?_)
      have e2 := coded198 W' B c' r.length A' (be r.length 4 ++ (r ++ rest)) h' hB' (isB_append (isB_be _ _) hb2) (by simp [be_length]) hc' hm' (by rw [t1, valBE_be]; simp only [Int.reducePow]; omega) (by simp [be_length])
      rw [t2, k1, k2] at e2
      exact e2
end Go.Proofs.YtohainhkplombaaDoor
