/- impl.PutTimeExt, and what its bytes are read as. PRINTED by wip/gentg.py. -/
import Derived.Test.YtgjkbldgpfaemaaDoorTb
import Derived.Test.YtgjkbldgpfaemaaDoorTc
import Derived.Test.YtgjkbldgpfaemaaDoorTd
import Derived.Test.YtgjkbldgpfaemaaDoorTe
import Derived.Test.YtgjkbldgpfaemaaDoorTf
namespace Go.Proofs.YtgjkbldgpfaemaaDoor
open Go.RowKit
set_option linter.unusedVariables false

/-- The data of a timestamp extension. -/
def tData (sec n : Int) : List Int := if n = 0 ∧ 0 < sec ∧ sec ≤ 4294967295 then be sec 4 else if sec < 0 ∨ 17179869184 ≤ sec then be n 4 ++ be (sec % 18446744073709551616) 8 else be (sec + n * 17179869184) 8
/-- A timestamp extension. -/
def tExt (sec n : Int) : List Int := if n = 0 ∧ 0 < sec ∧ sec ≤ 4294967295 then [214, 255] ++ be sec 4 else if sec < 0 ∨ 17179869184 ≤ sec then [199, 12, 255] ++ (be n 4 ++ be (sec % 18446744073709551616) 8) else [215, 255] ++ be (sec + n * 17179869184) 8
theorem tExt_len (sec n : Int) : 6 ≤ (tExt sec n).length ∧ (tExt sec n).length ≤ 15 := by
  unfold tExt
  split
  · simp [be_length]
  · split <;> simp [be_length]

theorem AppendTimeExt_b (w0 w : World) (B g : Nat) (sec n : Int) (cs : List Value) (l : List Int) (hw0 : Below B w0 w) (hB : B ≤ g) (hBw : B ≤ w.heap.size) (hb : Blk w g 5 cs) (hx : cs.take l.length = bs l) (hm : cs.length ≤ maxLen) (hs : l.length ≤ 1099000000000) (hG : 0 < B) (hv : w0.cell? ⟨0, 0, none⟩ = some (.int .i8 (-1))) (n0 : 0 ≤ n) (n1 : n < 1000000000) (s0 : -68719476736 < sec) (s1 : sec < 68719476736) :
    Calls Tryd.prog 9 #[.slice (some ⟨g, 0, none⟩) l.length cs.length, .agg #[.int .i64 sec, .int .i64 n]] w (AppB w0 B (l ++ tExt sec n)) := by
  unfold tExt
  by_cases c1 : n = 0 ∧ 0 < sec ∧ sec ≤ 4294967295
  · rw [if_pos c1]
    exact AppendTimeExt_4 w0 w B g sec n cs l hw0 hB hBw hb hx hm hs hG hv n0 n1 c1.2.1 c1.2.2 c1.1
  · rw [if_neg c1]
    by_cases c2 : sec < 0 ∨ 17179869184 ≤ sec
    · rw [if_pos c2]
      exact AppendTimeExt_12 w0 w B g sec n cs l hw0 hB hBw hb hx hm hs hG hv n0 n1 s0 s1 c2
    · rw [if_neg c2]
      exact AppendTimeExt_8 w0 w B g sec n cs l hw0 hB hBw hb hx hm hs hG hv n0 n1 (by omega) (by omega) c1

set_option maxHeartbeats 1000000 in
set_option maxRecDepth 100000 in
theorem PutTimeExt_calls (w : World) (A : Option Addr) (c : Nat) (l : List Int) (sec n : Int) (h : Reads w w.heap.size 1 A l.length (bs l)) (hn : l.length ≤ 1099000000000) (hG : 0 < w.heap.size) (hv : w.cell? ⟨0, 0, none⟩ = some (.int .i8 (-1))) (n0 : 0 ≤ n) (n1 : n < 1000000000) (s0 : -68719476736 < sec) (s1 : sec < 68719476736) :
    Calls Tryd.prog 4 #[.slice A l.length c, .int .i64 sec, .int .i32 n] w (AppB w w.heap.size (l ++ tExt sec n)) := by
  have H := Lib.hid h
  have HV := Lib.hid hv
  clear h hv
  go_enter Tryd.func4, Tryd.ntmps4
  go_wp2_with (first
    | (go_at_call 10
       go_must (
         (refine (copied_b _ A c l H.out (by omega)).mono ?_)
         rintro e w1 ⟨g, cs, rfl, hb, hnn1, hm1, ht1, hB1, hbel⟩
         have HB := Lib.hid hb
         have HT := Lib.hid ht1
         have HBEL := Lib.hid hbel
         have hsz := hbel.size
         clear hb ht1 hbel))
    | (go_at_call 11
       go_must (
         (refine (At_pos _ _ _ n0 n1).mono ?_)
         rintro e w2 ⟨rfl, hbel2⟩
         have HBEL2 : Hid (Below w.heap.size w w2) := HBEL.out.trans (hbel2.mono hsz)
         have HB2 : Hid (Blk w2 g 5 cs) := HB.out.below hbel2 HB.out.lt
         have hsz2 := HBEL2.out.size
         clear hbel2))
    | (go_at_call 9
       go_must (
         (refine (AppendTimeExt_b w w2 w.heap.size g sec n cs l HBEL2.out hB1 hsz2 HB2.out HT.out hm1 hn hG HV.out n0 n1 s0 s1).mono ?_)
         rintro e w3 ⟨g2, cs2, rfl, hb2, hnn2, hm2, ht2, hB2, hbel2⟩
         obtain ⟨N2, hN2⟩ : ∃ N2, N2 = (l ++ tExt sec n).length := ⟨_, rfl⟩
         rw [← hN2]
         have HN2 := Lib.hid hN2
         have HB3 := Lib.hid hb2
         have HT2 := Lib.hid ht2
         have HBEL3 := Lib.hid hbel2
         have hn2' := Lib.hid hnn2
         clear hb2 ht2 hbel2 hnn2 hN2)))
  go_ret
  exact ⟨g2, cs2, by rw [← HN2.out]; rfl, HB3.out, hn2'.out, hm2, HT2.out, hB2, HBEL3.out⟩
theorem PutTimeExt_awake (w : World) (hG : 0 < w.heap.size) (hv : w.cell? ⟨0, 0, none⟩ = some (.int .i8 (-1))) : Calls Tryd.prog 4 #[.slice none 0 0, .int .i64 1, .int .i32 2] w (AppB w w.heap.size ([215, 255] ++ be 34359738369 8)) := by
  have e := PutTimeExt_calls w none 0 [] 1 2 Reads.none_ (by simp) hG hv (by omega) (by omega) (by omega) (by omega)
  have e2 : tExt 1 2 = [215, 255] ++ be 34359738369 8 := by
    unfold tExt
    rw [if_neg (by omega), if_neg (by omega)]
    rfl
  rw [List.nil_append, e2] at e
  exact e

theorem be4 (u : Int) (h0 : 0 ≤ u) (h1 : u < 4294967296) : valBE (be u 4) = u := by
  rw [valBE_be]; simp only [Int.reducePow]; omega
theorem be8 (u : Int) (h0 : 0 ≤ u) (h1 : u < 18446744073709551616) : valBE (be u 8) = u := by
  rw [valBE_be]; simp only [Int.reducePow]; omega

theorem Moment_data (w : World) (sec n : Int) (n0 : 0 ≤ n) (n1 : n < 1000000000) (s0 : -68719476736 < sec) (s1 : sec < 68719476736) :
    Calls Tryd.prog 8 #[.string (strOfNums (tData sec n))] w fun e w' => e = .returned (.tuple #[.int .i64 sec, .int .u32 n, .bool true]) ∧ Below w.heap.size w w' := by
  unfold tData
  by_cases c1 : n = 0 ∧ 0 < sec ∧ sec ≤ 4294967295
  · rw [if_pos c1]
    have e := Moment_4 w (be sec 4) (isB_be _ _) (be_length _ _)
    rw [be4 sec (by omega) (by omega)] at e
    rw [c1.1]
    exact e
  · rw [if_neg c1]
    by_cases c2 : sec < 0 ∨ 17179869184 ≤ sec
    · rw [if_pos c2]
      have t1 : (be n 4 ++ be (sec % 18446744073709551616) 8).take 4 = be n 4 := List.take_left' (be_length _ _)
      have t2 : (be n 4 ++ be (sec % 18446744073709551616) 8).drop 4 = be (sec % 18446744073709551616) 8 := List.drop_left' (be_length _ _)
      have e := Moment_12 w (be n 4 ++ be (sec % 18446744073709551616) 8) (isB_append (isB_be _ _) (isB_be _ _)) (by simp [be_length]) (by rw [t1, be4 n n0 (by omega)]; exact n1)
      rw [t1, t2, be4 n n0 (by omega), be8 _ (by omega) (by omega), show wrap64 (sec % 18446744073709551616) = sec by unfold wrap64; omega] at e
      exact e
    · rw [if_neg c2]
      have v : valBE (be (sec + n * 17179869184) 8) = sec + n * 17179869184 := be8 _ (by omega) (by omega)
      have e := Moment_8 w (be (sec + n * 17179869184) 8) (isB_be _ _) (be_length _ _) (by rw [v]; omega)
      rw [v, show (sec + n * 17179869184) % 17179869184 = sec by omega, show (sec + n * 17179869184) / 17179869184 = n by omega] at e
      exact e

theorem take_ext (sec n : Int) (n0 : 0 ≤ n) (n1 : n < 1000000000) (s0 : -68719476736 < sec) (s1 : sec < 68719476736) (W : World) (B c : Nat) (A : Option Addr) (h : Reads W B 1 A (tExt sec n).length (bs (tExt sec n))) (hB : B ≤ W.heap.size) (hc : (tExt sec n).length ≤ c) (hm : c ≤ maxLen) :
    Calls Tryd.prog 7 #[.slice A (tExt sec n).length c, .int .i64 1] W (Coded W B (pk 10 0 (strOfNums (tData sec n)) (-1)) []) := by
  unfold tExt at h hc ⊢
  unfold tData
  by_cases c1 : n = 0 ∧ 0 < sec ∧ sec ≤ 4294967295
  · rw [if_pos c1] at h hc ⊢
    rw [if_pos c1]
    have e : [214, 255] ++ be sec 4 = 214 :: (255 :: be sec 4) := rfl
    rw [e] at h hc ⊢
    refine TakePack_coded W B c A 214 (255 :: be sec 4) h hB (isB_cons (by omega) (by omega) (isB_cons (by omega) (by omega) (isB_be _ _))) hc hm (by omega) (by omega) 10 0 (-1) _ [] (fun W' c' A' h' hB' hc' hm' => ?_)
    have e2 := coded214 W' B c' A' (255 :: be sec 4) h' hB' (isB_cons (by omega) (by omega) (isB_be _ _)) (by simp [be_length]) rfl hc' hm'
    have t1 : (((255 :: be sec 4).drop 0).drop 1).take 4 = be sec 4 := List.take_of_length_le (by simp [be_length])
    have t2 : ((255 :: be sec 4).drop 0).drop (1 + 4) = [] := List.drop_eq_nil_of_le (by simp [be_length])
    rw [t1, t2] at e2
    exact e2
  · rw [if_neg c1] at h hc ⊢
    rw [if_neg c1]
    by_cases c2 : sec < 0 ∨ 17179869184 ≤ sec
    · rw [if_pos c2] at h hc ⊢
      rw [if_pos c2]
      obtain ⟨D, hD⟩ : ∃ D, D = be n 4 ++ be (sec % 18446744073709551616) 8 := ⟨_, rfl⟩
      have hDl : D.length = 12 := by rw [hD]; simp [be_length]
      have hDB : IsB D := by rw [hD]; exact isB_append (isB_be _ _) (isB_be _ _)
      rw [← hD] at h hc ⊢
      have e : [199, 12, 255] ++ D = 199 :: (12 :: 255 :: D) := rfl
      rw [e] at h hc ⊢
      refine TakePack_coded W B c A 199 (12 :: 255 :: D) h hB (isB_cons (by omega) (by omega) (isB_cons (by omega) (by omega) (isB_cons (by omega) (by omega) hDB))) hc hm (by omega) (by omega) 10 0 (-1) _ [] (fun W' c' A' h' hB' hc' hm' => ?_)
      have e2 := coded199 W' B c' A' (12 :: 255 :: D) h' hB' (isB_cons (by omega) (by omega) (isB_cons (by omega) (by omega) hDB)) (by simp [hDl]) rfl hc' hm' rfl
      have t1 : (((12 :: 255 :: D).drop 1).drop 1).take 12 = D := List.take_of_length_le (by simp [hDl])
      have t2 : ((12 :: 255 :: D).drop 1).drop (1 + 12) = [] := List.drop_eq_nil_of_le (by simp [hDl])
      rw [t1, t2] at e2
      exact e2
    · rw [if_neg c2] at h hc ⊢
      rw [if_neg c2]
      obtain ⟨D, hD⟩ : ∃ D, D = be (sec + n * 17179869184) 8 := ⟨_, rfl⟩
      have hDl : D.length = 8 := by rw [hD]; simp [be_length]
      have hDB : IsB D := by rw [hD]; exact isB_be _ _
      rw [← hD] at h hc ⊢
      have e : [215, 255] ++ D = 215 :: (255 :: D) := rfl
      rw [e] at h hc ⊢
      refine TakePack_coded W B c A 215 (255 :: D) h hB (isB_cons (by omega) (by omega) (isB_cons (by omega) (by omega) hDB)) hc hm (by omega) (by omega) 10 0 (-1) _ [] (fun W' c' A' h' hB' hc' hm' => ?_)
      have e2 := coded215 W' B c' A' (255 :: D) h' hB' (isB_cons (by omega) (by omega) hDB) (by simp [hDl]) rfl hc' hm'
      have t1 : (((255 :: D).drop 0).drop 1).take 8 = D := List.take_of_length_le (by simp [hDl])
      have t2 : ((255 :: D).drop 0).drop (1 + 8) = [] := List.drop_eq_nil_of_le (by simp [hDl])
      rw [t1, t2] at e2
      exact e2

theorem moment_yes (w : World) (sec n : Int) (n0 : 0 ≤ n) (n1 : n < 1000000000) (s0 : -68719476736 < sec) (s1 : sec < 68719476736) :
    Calls Tryd.prog 6 #[.int .i64 sec, .int .i32 n] w fun e w' => e = .returned (.bool true) ∧ w = w' := by
  go_enter Tryd.func6, Tryd.ntmps6
  go_wp2
  go_ret
  exact ⟨rfl, rfl⟩
theorem moment_no (w : World) (sec n : Int) (h : ¬ (0 ≤ n ∧ n < 1000000000 ∧ -68719476736 < sec ∧ sec < 68719476736)) :
    Calls Tryd.prog 6 #[.int .i64 sec, .int .i32 n] w fun e w' => e = .returned (.bool false) ∧ w = w' := by
  have hc : n < 0 ∨ (0 ≤ n ∧ 1000000000 ≤ n) ∨ (0 ≤ n ∧ n < 1000000000 ∧ sec ≤ -68719476736) ∨ (0 ≤ n ∧ n < 1000000000 ∧ -68719476736 < sec ∧ 68719476736 ≤ sec) := by omega
  clear h
  rcases hc with h1 | ⟨h1, h2⟩ | ⟨h1, h2, h3⟩ | ⟨h1, h2, h3, h4⟩
  all_goals
    go_enter Tryd.func6, Tryd.ntmps6
    go_wp2
    go_ret
    first
      | exact ⟨rfl, rfl⟩
      | exact ⟨by rw [show decide (sec < 68719476736) = false from decide_eq_false (by omega)]; rfl, rfl⟩

end Go.Proofs.YtgjkbldgpfaemaaDoor
