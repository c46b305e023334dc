/- headsInOrder, and the walk of FnStreamPutMapHead. PRINTED by wip/genmap.py. -/
import Derived.Test.YtohainhkplombaaMh
import Derived.Test.YtohainhkplombaaKt
namespace Go.Proofs.Ytohainhkplombaa
open Go.RowKit
set_option linter.unusedVariables false
theorem isB_encM (u : Int) (h0 : 0 ≤ u) : IsB (encM u) := by
  unfold encM
  repeat' split
  all_goals first
    | exact isB_cons (by omega) (by omega) (isB_be _ _)
    | exact isB_cons (by omega) (by omega) isB_nil
theorem takeH_encM (u : Int) (h0 : 0 ≤ u) (h1 : u ≤ 4294967295) (rest : List Int) (hrb : IsB rest) (W : World) (B c : Nat) (A : Option Addr) (h : Reads W B 1 A (encM u ++ rest).length (bs (encM u ++ rest))) (hB : B ≤ W.heap.size) (hc : (encM u ++ rest).length ≤ c) (hm : c ≤ maxLen) :
    Calls Try.prog 22 #[.slice A (encM u ++ rest).length c] W (Headed W B 9 u rest) := by
  by_cases u0 : u ≤ 15
  · have e : encM u ++ rest = (128 + u) :: rest := by unfold encM; rw [if_pos u0]; rfl
    rw [e] at h hc ⊢
    have := TakeHead_fix W B c A (128 + u) rest h hB hc hm (by omega) (by omega)
    rwa [show 128 + u - 128 = u by omega] at this
  · by_cases u1 : u ≤ 65535
    · have e : encM u ++ rest = 222 :: (be u 2 ++ rest) := by unfold encM; rw [if_neg u0, if_pos u1]; rfl
      rw [e] at h hc ⊢
      have hl : (be u 2).length = 2 := be_length _ _
      have := TakeHead_222 W B c A (be u 2 ++ rest) h hB (isB_append (isB_be _ _) hrb) (by rw [List.length_append]; omega) hc hm
      rw [List.take_left' hl, List.drop_left' hl, valBE_be] at this
      rwa [show u % 256 ^ 2 = u by simp only [Int.reducePow]; omega] at this
    · have e : encM u ++ rest = 223 :: (be u 4 ++ rest) := by unfold encM; rw [if_neg u0, if_neg u1]; rfl
      rw [e] at h hc ⊢
      have hl : (be u 4).length = 4 := be_length _ _
      have := TakeHead_223 W B c A (be u 4 ++ rest) h hB (isB_append (isB_be _ _) hrb) (by rw [List.length_append]; omega) hc hm
      rw [List.take_left' hl, List.drop_left' hl, valBE_be] at this
      rwa [show u % 256 ^ 4 = u by simp only [Int.reducePow]; omega] at this

set_option maxHeartbeats 2000000 in
set_option maxRecDepth 100000 in
theorem headsInOrder_calls (w : World) (B c c2 : Nat) (A A2 : Option Addr) (l : List Int) (h : Reads w B 1 A (l.flatMap encM).length (bs (l.flatMap encM))) (hB : B ≤ w.heap.size) (hc : (l.flatMap encM).length ≤ c) (hm : c ≤ maxLen) (hw : Reads w w.heap.size 1 A2 l.length (l.map (Value.int .u32))) (hl : ∀ x ∈ l, 0 ≤ x ∧ x ≤ 4294967295) (hn : l.length ≤ 1000000) :
    Calls Try.prog 11 #[.slice A (l.flatMap encM).length c, .bool true, .int .i64 9, .slice A2 l.length c2] w fun e w' => e = .returned (.bool true) ∧ Below w.heap.size w w' := by
  have HR := Lib.hid h
  have HW := Lib.hid hw
  have HL := Lib.hid hl
  have HC := Lib.hid hc
  clear h hw hl hc
  go_enter Try.func11, Try.ntmps11
  go_wp2
  go_loopw [0, 17] (fun d i wr => ∃ k A' c' N, k ≤ l.length ∧ i = .int .i64 (k : Nat) ∧ d = .slice A' N c' ∧ Hid (N = ((l.drop k).flatMap encM).length ∧ N ≤ c' ∧ c' ≤ maxLen ∧ Reads wr B 1 A' N (bs ((l.drop k).flatMap encM)) ∧ Below w.heap.size w wr)) (fun _ i _ => l.length - (intOf i).toNat)
  case atStart => exact ⟨0, A, c, _, Nat.zero_le _, rfl, rfl, rfl, HC.out, hm, HR.out, Below.refl _ _⟩
  case round =>
    obtain ⟨k, A', c', N, hk, rfl, rfl, hrest⟩ := hrel
    by_cases hlt : k < l.length
    · obtain ⟨ad, hA2, hadB, hcell0⟩ := HW.out.num hlt
      subst hA2
      have hx : l.getD k 0 ∈ l := by rw [List.getD_eq_getElem?_getD, List.getElem?_eq_getElem hlt]; exact List.getElem_mem hlt
      have hbr : Below w.heap.size w wr := hrest.out.2.2.2.2
      have hcell : wr.cell? (ad.add k) = some (.int .u32 (l.getD k 0)) := (hbr.cell (by rw [block_of_add]; exact hadB)).trans hcell0
      have hu := HL.out _ hx
      obtain ⟨hu0, hu1⟩ := hu
      have hfd := flat_drop l encM k hlt
      have hBr : B ≤ wr.heap.size := Nat.le_trans hB hbr.size
      obtain ⟨R, hR⟩ : ∃ R, R = (l.drop (k + 1)).flatMap encM := ⟨_, rfl⟩
      rw [← hR] at hfd
      have hRB : IsB R := by rw [hR]; exact isB_flat (fun x hx => isB_encM x (HL.out x (List.mem_of_mem_drop hx)).1)
      clear hcell0
      generalize l.getD k 0 = x at *
      have hN : N = (encM x ++ R).length := by rw [← hfd]; exact hrest.out.1
      have hrd : Reads wr B 1 A' (encM x ++ R).length (bs (encM x ++ R)) := by
        have := hrest.out.2.2.2.1
        rw [hfd, hN] at this
        exact this
      have hNc : N ≤ c' := hrest.out.2.1
      have hcm : c' ≤ maxLen := hrest.out.2.2.1
      have ht : Calls Try.prog 22 #[.slice A' N c'] wr (Headed wr B 9 x R) := by
        rw [hN]
        exact takeH_encM x hu0 hu1 R hRB wr B c' A' hrd hBr (by rw [← hN]; exact hNc) hcm
      have HRR := Lib.hid hR
      have HBR := Lib.hid hbr
      have HTX := Lib.hid ht
      clear hx hfd hR hRB hrd hN hrest hbr ht
      go_wp2_with (
        (go_at_call 22)
        go_must (
          (refine HTX.out.mono ?_)
          rintro e w1 ⟨A2', c2'', rfl, hl2, hc2, hr2, hbel⟩
          have HBEL1 := Lib.hid hbel
          have HR2 := Lib.hid hr2
          have HL2 := Lib.hid hl2
          clear hbel hr2 hl2))
      go_roundw
      case rel =>
        refine ⟨k + 1, A2', c2'', R.length, by omega, by go_num, rfl, by rw [HRR.out], HL2.out, hc2, ?_, ?_⟩
        · rw [← HRR.out]
          exact HR2.out
        · exact HBR.out.trans (HBEL1.out.mono HBR.out.size)
      case measure => simp [intOf]; omega
    · obtain rfl : k = l.length := by omega
      have h0 : N = 0 := by rw [hrest.out.1, List.drop_length]; rfl
      subst h0
      have HBR := Lib.hid hrest.out.2.2.2.2
      clear hrest
      go_wp2
      go_ret
      exact ⟨rfl, HBR.out⟩
theorem StreamPutMapHead_calls (w : World) (A : Option Addr) (c : Nat) (sz : Int) (l : List Int) (h : Reads w w.heap.size 1 A l.length (l.map (Value.int .u32))) (h18 : 18 ≤ sz) (hsz : sz ≤ 65536) (hl : ∀ x ∈ l, 0 ≤ x ∧ x ≤ 4294967295) (hn : l.length ≤ 100) :
    Calls Try.prog 10 #[.int .i64 sz, .slice A l.length c] w (Wrt w w.heap.size (l.flatMap encM)) := by
  have H := Lib.hid h
  have HL := Lib.hid hl
  clear h hl
  go_enter Try.func10, Try.ntmps10
  go_wp2_with (
    (go_at_call 14)
    go_must (
      (refine (StreamPutMapHead_written w A c sz l H.out h18 hsz HL.out hn).mono ?_)
      rintro e W1 ⟨A2, c2, rfl, hr, hc2, hm2, hbel⟩
      obtain ⟨N2, hN2⟩ : ∃ N2, N2 = (l.flatMap encM).length := ⟨_, rfl⟩
      rw [← hN2]
      have HN2 := Lib.hid hN2
      have HR := Lib.hid hr
      have HC := Lib.hid hc2
      have HBEL := Lib.hid hbel
      clear hr hc2 hbel hN2))
  go_ret2
  exact ⟨A2, c2, by rw [← HN2.out]; rfl, HR.out, HC.out, hm2, HBEL.out⟩
theorem StreamPutMapHead_awake (w : World) (A : Option Addr) (h : Reads w w.heap.size 1 A 1 [.int .u32 5]) : Calls Try.prog 10 #[.int .i64 100, .slice A 1 1] w (Wrt w w.heap.size [133]) := by
  have e := StreamPutMapHead_calls w A 1 100 [5] h (by omega) (by omega) (by simp) (by simp)
  exact e

set_option maxHeartbeats 4000000 in
set_option maxRecDepth 100000 in
theorem FnStreamPutMapHead_walk (w : World) (A : Option Addr) (c : Nat) (b : Int) (l : List Int) (h : Reads w w.heap.size 1 A l.length (l.map (Value.int .u32))) (hl : ∀ x ∈ l, 0 ≤ x ∧ x ≤ 4294967295) :
    Calls Try.prog 4 #[.int .i64 b, .slice A l.length c] w fun e w' => e = .returned (.bool true) ∧ Below w.heap.size w w' := by
  have H := Lib.hid h
  have HL := Lib.hid hl
  clear h hl
  by_cases hz : 2147483647 < l.length
  · have hd : decide ((2147483647 : Int) < (l.length : Int)) = true := by simp; omega
    go_enter Try.func4, Try.ntmps4
    go_wp2
    go_ret
    exact ⟨rfl, Below.refl _ _⟩
  have hd : decide ((2147483647 : Int) < (l.length : Int)) = false := by simp; omega
  by_cases hb : b < 18 ∨ 65536 < b
  · have HB := Lib.hid hb
    clear hb
    go_enter Try.func4, Try.ntmps4
    go_wp2_with (first
      | (go_at_call 10
         go_must (
           (refine (StreamPutMapHead_awake _ _ (by simpa using reads_one w (.int .u32 5) 26)).mono ?_)
           rintro e w1 ⟨A1, c1, rfl, hr1, hc1, hm1, hbel1⟩
           have HBEL1 := Lib.hid hbel1
           clear hr1 hbel1))
      | (go_at_call 8
         go_must (
           (refine (buffers_no _ b HB.out).mono ?_)
           rintro e w' ⟨rfl, rfl⟩)))
    go_ret
    exact ⟨rfl, ((Below.refl _ w).alloc (Nat.le_refl _) _).trans (HBEL1.out.mono (by simp))⟩
  have hb0 : 18 ≤ b := by omega
  have hb1 : b ≤ 65536 := by omega
  clear hb
  by_cases hn : 100 < l.length
  · have hd2 : decide ((100 : Int) < (l.length : Int)) = true := by simp; omega
    go_enter Try.func4, Try.ntmps4
    go_wp2_with (first
      | (go_at_call 10
         go_must (
           (refine (StreamPutMapHead_awake _ _ (by simpa using reads_one w (.int .u32 5) 26)).mono ?_)
           rintro e w1 ⟨A1, c1, rfl, hr1, hc1, hm1, hbel1⟩
           have HBEL1 := Lib.hid hbel1
           clear hr1 hbel1))
      | (go_at_call 8
         go_must (
           (refine (buffers_yes _ b hb0 hb1).mono ?_)
           rintro e w' ⟨rfl, rfl⟩)))
    go_ret
    exact ⟨rfl, ((Below.refl _ w).alloc (Nat.le_refl _) _).trans (HBEL1.out.mono (by simp))⟩
  have hd2 : decide ((100 : Int) < (l.length : Int)) = false := by simp; omega
  go_enter Try.func4, Try.ntmps4
  go_wp2_with (first
    | (go_at_call 10
       go_must (first
         | ((refine (StreamPutMapHead_calls _ A c b l ((H.out.below HBEL1.out).more HBEL1.out.size) hb0 hb1 HL.out (by omega)).mono ?_)
            rintro e w2 ⟨A2, c2, rfl, hr2, hc2, hm2, hbel2⟩
            obtain ⟨N2, hN2⟩ : ∃ N2, N2 = (l.flatMap encM).length := ⟨_, rfl⟩
            rw [← hN2]
            have HN2 := Lib.hid hN2
            have HR2 := Lib.hid hr2
            have HC2 := Lib.hid hc2
            have HBEL2 := Lib.hid hbel2
            clear hr2 hc2 hbel2 hN2)
         | ((refine (StreamPutMapHead_awake _ _ (by simpa using reads_one w (.int .u32 5) 26)).mono ?_)
            rintro e w1 ⟨A1, c1, rfl, hr1, hc1, hm1, hbel1⟩
            have HBEL1 : Hid (Below w.heap.size w w1) := ((Below.refl _ w).alloc (Nat.le_refl _) _).trans (hbel1.mono (by simp))
            clear hr1 hbel1)))
    | (go_at_call 8
       go_must (
         (refine (buffers_yes _ b hb0 hb1).mono ?_)
         rintro e w' ⟨rfl, rfl⟩))
    | (go_at_call 11
       go_must (
         (have hb12 := HBEL1.out.trans (HBEL2.out.mono HBEL1.out.size))
         have hio := headsInOrder_calls w2 w2.heap.size c2 c A2 A l HR2.out (Nat.le_refl _) HC2.out hm2 ((H.out.below hb12).more hb12.size) HL.out (by omega)
         clear hb12
         rw [← HN2.out] at hio
         refine hio.mono ?_
         rintro e w3 ⟨rfl, hbel3⟩
         have HBEL3 := Lib.hid hbel3
         clear hbel3)))
  go_ret
  have z1 := HBEL1.out.size
  have z2 := HBEL2.out.size
  exact ⟨rfl, (HBEL1.out.trans (HBEL2.out.mono z1)).trans (HBEL3.out.mono (by omega))⟩

end Go.Proofs.Ytohainhkplombaa
