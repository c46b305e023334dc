/- The law FnPutBin: bytes that are appended are read back. PRINTED by wip/genbinlaw.py. -/
import Derived.Test.YtgjkbldgpfaemaaKp
import Derived.Test.YtgjkbldgpfaemaaKq
import Derived.Deep.RegionHeld3
import Derived.Lib.SlBytesConst
namespace Go.Proofs.Ytgjkbldgpfaemaa
open Go.RowKit
set_option linter.unusedVariables false

set_option maxHeartbeats 1000000 in
theorem PutBin_calls (w : World) (A A2 : Option Addr) (c c2 : Nat) (l r : List Int) (h : Reads w w.heap.size 1 A l.length (bs l)) (h2 : Reads w w.heap.size 1 A2 r.length (bs r)) (hn : l.length ≤ 1099000000000) (hn1 : l.length ≤ 70368744177664) (hr : r.length ≤ 16777216) :
    Calls Try.prog 13 #[.slice A l.length c, .slice A2 r.length c2] w (AppB w w.heap.size (l ++ (binHead r.length ++ r))) := by
  have H := Lib.hid h
  have H2 := Lib.hid h2
  clear h h2
  go_enter Try.func13, Try.ntmps13
  go_wp2_with (first
    | (go_at_call 23
       go_must (
         (refine (copied_b _ A c l H.out (by omega)).mono ?_)
         rintro e w1 ⟨g, cs, rfl, hb, hnn1, hm1, ht1, hB1, hbel⟩
         have HB := Lib.hid hb
         have HT := Lib.hid ht1
         have HBEL := Lib.hid hbel
         have H3 : Hid (Reads w1 w.heap.size 1 A2 r.length (bs r)) := H2.out.below hbel
         have hsz := hbel.size
         clear hb ht1 hbel))
    | (go_at_call 25
       go_must (
         (refine (AppendBytes_b w w1 w.heap.size g c2 A2 cs l r HBEL.out hB1 hsz HB.out HT.out hm1 (by omega) H3.out hr).mono ?_)
         rintro e w2 ⟨g2, cs2, rfl, hb2, hnn2, hm2, ht2, hB2, hbel2⟩
         obtain ⟨N2, hN2⟩ : ∃ N2, N2 = (l ++ (binHead r.length ++ r)).length := ⟨_, rfl⟩
         rw [← hN2]
         have HN2 := Lib.hid hN2
         have HB2 := Lib.hid hb2
         have HT2 := Lib.hid ht2
         have HBEL2 := Lib.hid hbel2
         have hn2' := Lib.hid hnn2
         clear hb2 ht2 hbel2 hnn2 hN2)))
  go_ret
  exact ⟨g2, cs2, by rw [← HN2.out]; rfl, HB2.out, hn2'.out, hm2, HT2.out, hB2, HBEL2.out⟩
theorem PutBin_awake (w : World) (A : Option Addr) (h : Reads w w.heap.size 1 A 1 (bs [97])) : Calls Try.prog 13 #[.slice none 0 0, .slice A 1 1] w (AppB w w.heap.size [196, 1, 97]) := by
  have e := PutBin_calls w none A 0 1 [] [97] Reads.none_ h (by simp) (by simp) (by simp)
  exact e

theorem isB_binHead (n : Nat) : IsB (binHead n) := by
  unfold binHead
  split
  · exact isB_cons (by omega) (by omega) (isB_be _ _)
  · split
    · exact isB_cons (by omega) (by omega) (isB_be _ _)
    · exact isB_cons (by omega) (by omega) (isB_be _ _)
theorem take_bin (r : List Int) (hr : IsB r) (hrl : r.length ≤ 16777216) (W : World) (B c : Nat) (A : Option Addr) (h : Reads W B 1 A (binHead r.length ++ r).length (bs (binHead r.length ++ r))) (hB : B ≤ W.heap.size) (hc : (binHead r.length ++ r).length ≤ c) (hm : c ≤ maxLen) :
    Calls Try.prog 26 #[.slice A (binHead r.length ++ r).length c, .int .i64 1] W (Coded W B (pk 7 0 (strOfNums r) 0) []) := by
  by_cases u0 : (r.length : Int) ≤ 255
  · have e : binHead r.length = 196 :: be r.length 1 := by unfold binHead; rw [if_pos u0]
    rw [e] at h hc ⊢
    have hl : (be (r.length : Int) 1).length = 1 := be_length _ _
    have t1 : (be (r.length : Int) 1 ++ r).take 1 = be r.length 1 := List.take_left' hl
    have t2 : (be (r.length : Int) 1 ++ r).drop 1 = r := List.drop_left' hl
    refine TakePack_coded W B c A 196 (be r.length 1 ++ r) h hB (isB_cons (by omega) (by omega) (isB_append (isB_be _ _) hr)) hc hm (by omega) (by omega) 7 0 0 (strOfNums r) [] (fun W' c' A' h' hB' hc' hm' => ?_)
    have e2 := coded196 W' B c' r.length A' (be r.length 1 ++ r) h' hB' (isB_append (isB_be _ _) hr) (by simp [be_length]) hc' hm' (by rw [t1, valBE_be]; simp only [Int.reducePow]; omega) (by simp [be_length])
    rw [t2, List.take_length, List.drop_length] at e2
    exact e2
  · by_cases u1 : (r.length : Int) ≤ 65535
    · have e : binHead r.length = 197 :: be r.length 2 := by unfold binHead; rw [if_neg u0, if_pos u1]
      rw [e] at h hc ⊢
      have hl : (be (r.length : Int) 2).length = 2 := be_length _ _
      have t1 : (be (r.length : Int) 2 ++ r).take 2 = be r.length 2 := List.take_left' hl
      have t2 : (be (r.length : Int) 2 ++ r).drop 2 = r := List.drop_left' hl
      refine TakePack_coded W B c A 197 (be r.length 2 ++ r) h hB (isB_cons (by omega) (by omega) (isB_append (isB_be _ _) hr)) hc hm (by omega) (by omega) 7 0 0 (strOfNums r) [] (fun W' c' A' h' hB' hc' hm' => ?_)
      have e2 := coded197 W' B c' r.length A' (be r.length 2 ++ r) h' hB' (isB_append (isB_be _ _) hr) (by simp [be_length]) hc' hm' (by rw [t1, valBE_be]; simp only [Int.reducePow]; omega) (by simp [be_length])
      rw [t2, List.take_length, List.drop_length] at e2
      exact e2
    · have e : binHead r.length = 198 :: be r.length 4 := by unfold binHead; rw [if_neg u0, if_neg u1]
      rw [e] at h hc ⊢
      have hl : (be (r.length : Int) 4).length = 4 := be_length _ _
      have t1 : (be (r.length : Int) 4 ++ r).take 4 = be r.length 4 := List.take_left' hl
      have t2 : (be (r.length : Int) 4 ++ r).drop 4 = r := List.drop_left' hl
      refine TakePack_coded W B c A 198 (be r.length 4 ++ r) h hB (isB_cons (by omega) (by omega) (isB_append (isB_be _ _) hr)) hc hm (by omega) (by omega) 7 0 0 (strOfNums r) [] (fun W' c' A' h' hB' hc' hm' => ?_)
      have e2 := coded198 W' B c' r.length A' (be r.length 4 ++ r) h' hB' (isB_append (isB_be _ _) hr) (by simp [be_length]) hc' hm' (by rw [t1, valBE_be]; simp only [Int.reducePow]; omega) (by simp [be_length])
      rw [t2, List.take_length, List.drop_length] at e2
      exact e2

theorem reads_marked (w : World) (t : TypeId) (cs : List Value) (fr : Nat × Nat) : Reads (w.alloc (.cells cs.toArray t fr)) (w.heap.size + 1) 1 (some ⟨w.heap.size, 0, none⟩) cs.length cs := by
  refine ⟨by simp, fun _ => ⟨_, rfl, by simp, fun j u hu => ?_⟩⟩
  rw [add_lit, Nat.zero_add, cell_of_row _ _ j cs.toArray t fr (heap_alloc_new w _)]
  simpa using hu
theorem step_append_fresh {w W : World} {A : Option Addr} {l : List Int} {c : Nat} {ops : Array Oper} {o : Oper} {a : Act} {K : Act → World → Prop} {Q : Exit → Act → World → Prop} {E : Prop} (hgd : o.guard = none) (s x : Operand)
    (ho : o.op = .call { callee := .builtin .append, args := #[s, x], argTypes := #[22, 22] }) (hs : a.eval s = .slice (some ⟨W.heap.size, 0, none⟩) 0 0) (hx : a.eval x = .slice A l.length c)
    (hw : w = W.alloc (.cells #[] 5)) (hr : Reads W W.heap.size 1 A l.length (bs l)) (hn : l.length ≤ 70368744177664)
    (h : ∀ g cs w', Hid (Blk w' g 5 cs) → l.length ≤ cs.length → cs.length ≤ maxLen → Hid (cs.take l.length = bs l) → W.heap.size ≤ g → Below W.heap.size W w' → K (a.put o.dst (.slice (some ⟨g, 0, none⟩) l.length cs.length)) w') :
    if Region.wanted o (yielded ops a.tmps) = true then Oper.wp Try.prog o a w K Q else E := by
  have hwd : Region.wanted o (yielded ops a.tmps) = true := by simp [Region.wanted, hgd]
  rw [if_pos hwd]
  subst hw
  obtain ⟨i0, hi0, hz0, hz1, hz2⟩ := info_parts infoU8
  refine wp_append_any _ s x _ ho W.heap.size 5 i0 _ 1 1 Try.underlying22 hi0 hz0 hz1 hz2 rfl (by omega) _ 0 [] hs (World.ownsRow_made W _ 0 (Nat.le_refl _) (by simp) (by simp)) W.heap.size A l.length c (bs l) hx (hr.alloc (Nat.le_refl _) _) (bs_one l) (by simp only [maxLen]; omega) (by omega) (by simp) ?_
  intro v1 w1 hown1 hg1 hat1
  have hne : v1 ≠ .slice none 0 0 := by
    rintro rfl
    rcases hat1 with h | h <;> simp [Value.ownBlock] at h
  have hown : w1.ownsRow W.heap.size 5 1 v1 l.length (bs l) := by simpa using hown1
  obtain ⟨g, cs, hv, hk, hB, hn, hm, ht⟩ := own_blk hown (.inr hne)
  rw [hv]
  refine h g cs w1 hk hn hm ht hB (((Below.refl _ _).alloc (Nat.le_refl _) _).grown hg1 (by simp) (fun k hk => ?_))
  simp [Value.ownBlock] at hk
  omega

set_option maxHeartbeats 4000000 in
set_option maxRecDepth 100000 in
theorem FnPutBin_walk (w : World) (A A2 : Option Addr) (c c2 : Nat) (l r : List Int) (h : Reads w w.heap.size 1 A l.length (bs l)) (h2 : Reads w w.heap.size 1 A2 r.length (bs r)) (hc : l.length ≤ c) (hr : IsB r) :
    Calls Try.prog 5 #[.slice A l.length c, .slice A2 r.length c2] w fun e w' => e = .returned (.bool true) ∧ Below w.heap.size w w' := by
  have kc := fun (w : World) (C : Array Value) (n c : Nat) => Lib.run_convert_bytes_const (P := Try.prog) w 22 5 C n c Try.underlying22 Try.underlying5
  have H := Lib.hid h
  have H2 := Lib.hid h2
  have HRB := Lib.hid hr
  clear h h2 hr
  by_cases hz : 2147483647 < l.length
  · have hd : decide ((2147483647 : Int) < (l.length : Int)) = true := by simp; omega
    go_enter Try.func5, Try.ntmps5
    go_wp2
    go_ret
    exact ⟨rfl, Below.refl _ _⟩
  · have hd : decide ((2147483647 : Int) < (l.length : Int)) = false := by simp; omega
    by_cases hz2 : 2147483647 < r.length
    · have hd2 : decide ((2147483647 : Int) < (r.length : Int)) = true := by simp; omega
      go_enter Try.func5, Try.ntmps5
      go_wp2
      go_ret
      exact ⟨rfl, Below.refl _ _⟩
    have hd2 : decide ((2147483647 : Int) < (r.length : Int)) = false := by simp; omega
    by_cases hf : l.length ≤ 200
    · by_cases hr2 : 131072 < r.length
      · have hd3 : decide ((131072 : Int) < (r.length : Int)) = true := by simp; omega
        go_enter Try.func5, Try.ntmps5
        go_wp2_with (first
          | (go_at_call 13
             go_must (
               (refine (PutBin_awake _ _ (by simpa [bs] using reads_marked w 5 [.int .u8 97] (1, 2))).mono ?_)
               rintro e w1 ⟨g1, cs1, rfl, hb1, hn1, hm1, ht1, hB1, hbel1⟩
               have HBEL1 := Lib.hid hbel1
               clear hb1 ht1 hbel1))
          | (go_at_call 12
             go_must (
               (refine (few_yes _ _ _ _ hf).mono ?_)
               rintro e w' ⟨rfl, rfl⟩)))
        go_ret
        exact ⟨rfl, ((Below.refl _ w).alloc (Nat.le_refl _) _).trans (HBEL1.out.mono (by simp))⟩
      · have hd3 : decide ((131072 : Int) < (r.length : Int)) = false := by simp; omega
        go_enter Try.func5, Try.ntmps5
        go_wp2_with (first
          | (go_at_call 13
             go_must (
               (refine (PutBin_awake _ _ (by simpa [bs] using reads_marked w 5 [.int .u8 97] (1, 2))).mono ?_)
               rintro e w1 ⟨g1, cs1, rfl, hb1, hn1, hm1, ht1, hB1, hbel1⟩
               have HBEL1 : Hid (Below w.heap.size w w1) := ((Below.refl _ w).alloc (Nat.le_refl _) _).trans (hbel1.mono (by simp))
               clear hb1 ht1 hbel1))
          | (go_at_call 12
             go_must (
               (refine (few_yes _ _ _ _ hf).mono ?_)
               rintro e w' ⟨rfl, rfl⟩)))
        have H1 : Hid (Reads w1 w1.heap.size 1 A l.length (bs l)) := (H.out.below HBEL1.out).more HBEL1.out.size
        have H21 : Hid (Reads w1 w1.heap.size 1 A2 r.length (bs r)) := (H2.out.below HBEL1.out).more HBEL1.out.size
        have hconv : ∀ W, Below w1.heap.size w1 W → ∀ c, (convert 22 9 (.slice A2 r.length c)).run Try.prog W = .ok (.string (strOfNums r)) W := fun W hW c => conv_reads (H21.out.below hW) _ _ _ Try.underlying22 Try.underlying5 Try.underlying9
        have kA : Below w1.heap.size w1 w1.drew := (Below.refl _ _).drew
        have kB : ∀ o, Below w1.heap.size w1 (w1.alloc o).drew := fun o => ((Below.refl _ _).alloc (Nat.le_refl _) o).drew
        clear H H2 kc
        go_region_held3 (fun W => Below w1.heap.size w1 W) (first | assumption | exact kA | exact kB _) (first
          | (refine step_append_fresh (W := w1.drew) rfl (.tmp 29) (.tmp 30) rfl rfl rfl rfl (H1.out.below kA) (by omega) ?_
             intro g2 cs2 w2 HB2 hn2 hm2 HT2 hB2 hbel2
             have hS2 : Below w1.heap.size w1 w2 := ⟨hbel2.os, hbel2.tape, hbel2.output, hbel2.size, hbel2.block⟩
             clear hbel2)
          | (go_at_call 13
             refine (PutBin_calls _ _ _ _ c2 l r (bs_reads HB2.out hn2 HT2.out) ((H21.out.below hS2).more hS2.size) (by omega) (by omega) (by omega)).mono ?_
             rintro e w3 ⟨g3, cs3, rfl, hb3, hn3, hm3, ht3, hB3, hbel3⟩
             have HB3 := Lib.hid hb3
             have HT3 := Lib.hid ht3
             have HN3 := Lib.hid hn3
             have hS3 : Below w1.heap.size w1 w3 := hS2.trans (hbel3.mono hS2.size)
             clear HB2 hb3 ht3 hbel3 hn3)
          | (go_at_call 14
             refine (appended_n w3 w3.heap.size c cs3.length _ A (some ⟨g3, 0, none⟩) l (binHead r.length ++ r) (-1) 7 0 0 7 0 0 (strOfNums r) (strOfNums r) (by simp) ((H1.out.below hS3).more hS3.size) (bs_reads HB3.out HN3.out HT3.out) (Nat.le_refl _) hc HN3.out hm3 (by omega) (fun W A c => take_bin r HRB.out (by omega) W w3.heap.size c A) (fun W => SamePack_plain W 7 0 0 (strOfNums r) (by decide))).mono ?_
             rintro e w4 ⟨rfl, hbel4⟩
             have hS4 : Below w1.heap.size w1 w4 := hS3.trans (hbel4.mono hS3.size)
             clear hbel4))
        go_wp2
        go_ret
        exact ⟨rfl, HBEL1.out.trans (hS4.mono HBEL1.out.size)⟩
    · have hfd : ¬ l.length ≤ 200 := hf
      go_enter Try.func5, Try.ntmps5
      go_wp2_with (first
        | (go_at_call 13
           go_must (
             (refine (PutBin_awake _ _ (by simpa [bs] using reads_marked w 5 [.int .u8 97] (1, 2))).mono ?_)
             rintro e w1 ⟨g1, cs1, rfl, hb1, hn1, hm1, ht1, hB1, hbel1⟩
             have HBEL1 := Lib.hid hbel1
             clear hb1 ht1 hbel1))
        | (go_at_call 12
           go_must (
             (refine (few_no _ _ _ _ hfd).mono ?_)
             rintro e w' ⟨rfl, rfl⟩)))
      go_ret
      exact ⟨rfl, ((Below.refl _ w).alloc (Nat.le_refl _) _).trans (HBEL1.out.mono (by simp))⟩
end Go.Proofs.Ytgjkbldgpfaemaa
