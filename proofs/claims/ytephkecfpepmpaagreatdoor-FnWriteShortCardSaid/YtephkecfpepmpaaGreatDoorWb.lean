/- AMQP: the walks of FnWriteUbyte and FnWriteShort. PRINTED by wip/genwb.py. -/
import Derived.Test.YtephkecfpepmpaaGreatDoorWa
import Derived.Test.YtephkecfpepmpaaGreatDoorVd
import Derived.Test.YtephkecfpepmpaaGreatDoorBe
import Derived.Test.YtephkecfpepmpaaGreatDoorVe
namespace Go.Proofs.YtephkecfpepmpaaGreatDoor
open Go.RowKit Go.Maps
set_option linter.unusedVariables false

set_option maxHeartbeats 4000000 in
set_option maxRecDepth 100000 in
theorem take_s2 (w : World) (B c : Nat) (A : Option Addr) (lv x U : Int) (r : List Int) (h : Reads w B 1 A r.length (bs r)) (hB : B ≤ w.heap.size) (hl : IsB r) (hc : r.length ≤ c) (hm : c ≤ maxLen)
    (hr : 2 ≤ r.length) (hU : U = valBE (r.take 2)) (hU0 : 0 ≤ U) (hU1 : U ≤ 18446744073709551615) (hx0 : -9223372036854775808 ≤ x) (hx1 : x ≤ 9223372036854775807) (hsh : wrap64 (IntKind.u64.wrap (U * 281474976710656)) / 281474976710656 = x) :
    Calls Tryz.prog 30 #[.agg #[.slice none 0 0, .int .i64 97], .slice A r.length c, .int .i64 lv] w (Tk w B (vl 7 (IntKind.u64.wrap x) ByteArray.empty) (r.drop 2)) := by
  obtain ⟨A2, c2, hl2, hc2, hr2, hcall⟩ := takeBig_abs B c 2 (2 : Int) rfl A r hl (by omega) hr hc hm
  obtain ⟨R2, hR2⟩ : ∃ R2, R2 = r.drop 2 := ⟨_, rfl⟩
  rw [← hU, ← hR2] at hcall
  rw [← hR2] at hl2 hr2 ⊢
  have HCALL := Lib.hid hcall
  have HR2 := Lib.hid hr2
  have H := Lib.hid h
  have HKD := Lib.hid (show look2 KINDS 97 (.lit (.int .i64 0)) = pairD 7 2 from by rfl)
  clear hcall hr2 h hU hR2
  by_cases hdum : True
  · go_enter Tryz.func30, Tryz.ntmps30
    go_wp2_with (first
      | (go_at_call 66
         go_must (
           (refine (kindOf_yes _ 97 7 2 (by omega) (by omega) HKD.out).mono ?_)
           rintro e w1 ⟨rfl, hb1'⟩
           obtain ⟨p0, p1, p2, hbel⟩ := take_blks (w := w) (o := [.slice none 0 0, .int .i64 97]) (hb1'.mono (by simp))
           have q0 := p0.cell 0
           have q1 := p0.cell 1
           have z0 := p0.lt
           obtain ⟨s0, s1, s2, s3, s4, s5⟩ := blk_cells6 p1
           obtain ⟨f0, f1, f2, f3, f4, f5⟩ := blk_froz6 p1
           have z1 := p1.lt
           have P1 := Lib.hid p1
           have HBEL := Lib.hid hbel
           clear hb1' p0 p1 p2 hbel))
      | (go_at_call 67
         go_must (
           (refine (HCALL.out _ ((H.out.below (HBEL.out.mono hB)).alloc (by omega) _)).mono ?_)
           rintro e w2 ⟨rfl, n2, rfl⟩)))
    have hww1 : w.heap.size ≤ w1.heap.size := by omega
    have hbw1 : B ≤ w1.heap.size := by omega
    refine bodyPost_ret (results_cell2 rfl _ rfl (blk_set6 (((P1.out.alloc _).drewN n2).far (p := ⟨w1.heap.size, 1, none⟩) (Nat.ne_of_lt z1) _) _ _ _ _ _ _) Tryz.underlying30 rfl (by kernel_rfl)) rfl ?_
    exact ⟨_, _, rfl, by omega, by omega, reads_set6 (((((HR2.out w H.out).below (HBEL.out.mono hB)).alloc hbw1 _).drewN n2).setCell (p := ⟨w1.heap.size, 1, none⟩) hbw1 _) (Nat.le_trans hB (Nat.le_add_right _ 1)) _ _ _ _ _ _, bel_set6 ((below_drewN (HBEL.out.alloc hww1 _) n2).setCell (p := ⟨w1.heap.size, 1, none⟩) hww1 _) (Nat.le_add_right _ 1) _ _ _ _ _ _⟩
  · exact absurd trivial hdum


theorem wrote_ub (w : World) (B c : Nat) (A : Option Addr) (x : Int) (h0 : 0 ≤ x) (h1 : x ≤ 255) (h : Reads w B 1 A 2 (bs [80, x])) (hB : B ≤ w.heap.size) (hc : 2 ≤ c) (hm : c ≤ maxLen) :
    Calls Tryz.prog 7 #[.slice A 2 c, .bool true, vl 2 x ByteArray.empty] w fun e w' => e = .returned (.bool true) ∧ Below w.heap.size w w' := by
  have hb : IsB [x] := fun y hy => by
    obtain rfl : y = x := by simpa using hy
    exact ⟨h0, h1⟩
  exact wrote_of w B c A 80 2 x ByteArray.empty [x] h hB (by omega) (by omega) (by simpa using hc) hm (fun W A c h2 hB2 hc2 hm2 => by
    have ht := take_num W B c 1 A 80 2 8 [x] h2 hB2 hb (by omega) (by omega) hc2 hm2 (by rfl) (by omega) (by omega) (by omega) (by omega) (by omega) (by simp)
    have hv : valBE ([x].take 1) = x := by simp [valBE]
    rw [hv] at ht
    exact ht)
theorem wrote_sh (w : World) (B c : Nat) (A : Option Addr) (x : Int) (h0 : -32768 ≤ x) (h1 : x ≤ 32767) (h : Reads w B 1 A 3 (bs (97 :: be (IntKind.u16.wrap x) 2))) (hB : B ≤ w.heap.size) (hc : 3 ≤ c) (hm : c ≤ maxLen) :
    Calls Tryz.prog 7 #[.slice A 3 c, .bool true, vl 7 (IntKind.u64.wrap x) ByteArray.empty] w fun e w' => e = .returned (.bool true) ∧ Below w.heap.size w w' := by
  have hl : (be (IntKind.u16.wrap x) 2).length = 2 := be_length _ 2
  have hu : IntKind.u16.wrap x = x % 65536 := IntKind.wrap_u16 x
  have hv : IntKind.u16.wrap x = valBE ((be (IntKind.u16.wrap x) 2).take 2) := by
    rw [List.take_of_length_le (by omega), valBE_be]
    simp only [Int.reducePow]
    omega
  have hd : (be (IntKind.u16.wrap x) 2).drop 2 = [] := List.drop_eq_nil_of_le (by omega)
  have hsh : wrap64 (IntKind.u64.wrap (IntKind.u16.wrap x * 281474976710656)) / 281474976710656 = x := by
    rw [hu, IntKind.wrap_u64]
    unfold wrap64
    omega
  have hw := wrote_of w B c A 97 7 (IntKind.u64.wrap x) ByteArray.empty (be (IntKind.u16.wrap x) 2) (by rw [hl]; exact h) hB (by omega) (by omega) (by rw [hl]; omega) hm (fun W A c h2 hB2 hc2 hm2 => by
    have ht := take_s2 W B c A 8 x (IntKind.u16.wrap x) (be (IntKind.u16.wrap x) 2) h2 hB2 (isB_be _ 2) hc2 hm2 (by omega) hv (by omega) (by omega) (by omega) (by omega) hsh
    rw [hd] at ht
    exact ht)
  rw [hl] at hw
  exact hw

set_option maxHeartbeats 2000000 in
set_option maxRecDepth 100000 in
theorem FnWriteUbyte_walk (w : World) (v : Int) (h0 : 0 ≤ v) (h1 : v ≤ 255) :
    Calls Tryz.prog 4 #[.int .u8 v] w fun e w' => e = .returned (.bool true) ∧ Below w.heap.size w w' := by
  have h5 := (implWriteUbyte_calls w 5 (by omega) (by omega)).mono fun e w' h => told_n h (n := 2) (by simp)
  have hv := fun W => (implWriteUbyte_calls W v h0 h1).mono fun e w' h => told_n h (n := 2) (by simp)
  have H5 := Lib.hid h5
  have HV := Lib.hid hv
  clear h5 hv
  go_enter Tryz.func4, Tryz.ntmps4
  go_wp2_with (first
    | (go_at_call 8
       go_must (first
        | ((refine (HV.out w2).mono ?_)
           rintro e w3 ⟨g3, cs3, rfl, hc3, hm3, hr3, hb3⟩
           have HR3 := Lib.hid hr3
           have HB3 := Lib.hid hb3
           clear hr3 hb3)
        | ((refine H5.out.mono ?_)
           rintro e w1 ⟨g1, cs1, rfl, hc1, hm1, hr1', hb1⟩
           have HR1 := Lib.hid hr1'
           have HB1 := Lib.hid hb1
           clear hr1' hb1)))
    | (go_at_call 7
       go_must (first
        | ((refine (wrote_ub w3 w3.heap.size _ _ v (by omega) (by omega) HR3.out (Nat.le_refl _) hc3 hm3).mono ?_)
           rintro e w4 ⟨rfl, hb4⟩
           have HB4 := Lib.hid hb4
           clear hb4)
        | ((refine (wrote_ub w1 w1.heap.size _ _ 5 (by omega) (by omega) HR1.out (Nat.le_refl _) hc1 hm1).mono ?_)
           rintro e w2 ⟨rfl, hb2⟩
           have HB2 := Lib.hid hb2
           clear hb2))))
  go_ret
  have z1 := HB1.out.size
  have z2 := HB2.out.size
  have z3 := HB3.out.size
  exact ⟨rfl, ((HB1.out.trans (HB2.out.mono z1)).trans (HB3.out.mono (by omega))).trans (HB4.out.mono (by omega))⟩

set_option maxHeartbeats 2000000 in
set_option maxRecDepth 100000 in
theorem FnWriteShort_walk (w : World) (v : Int) (h0 : -32768 ≤ v) (h1 : v ≤ 32767) :
    Calls Tryz.prog 3 #[.int .i16 v] w fun e w' => e = .returned (.bool true) ∧ Below w.heap.size w w' := by
  have h5 := (implWriteShort_calls w 5 (by omega) (by omega)).mono fun e w' h => told_n h (n := 3) (by simp [be_length])
  have hv := fun W => (implWriteShort_calls W v h0 h1).mono fun e w' h => told_n h (n := 3) (by simp [be_length])
  have H5 := Lib.hid h5
  have HV := Lib.hid hv
  clear h5 hv
  go_enter Tryz.func3, Tryz.ntmps3
  go_wp2_with (first
    | (go_at_call 6
       go_must (first
        | ((refine (HV.out w2).mono ?_)
           rintro e w3 ⟨g3, cs3, rfl, hc3, hm3, hr3, hb3⟩
           have HR3 := Lib.hid hr3
           have HB3 := Lib.hid hb3
           clear hr3 hb3)
        | ((refine H5.out.mono ?_)
           rintro e w1 ⟨g1, cs1, rfl, hc1, hm1, hr1', hb1⟩
           have HR1 := Lib.hid hr1'
           have HB1 := Lib.hid hb1
           clear hr1' hb1)))
    | (go_at_call 7
       go_must (first
        | ((refine (wrote_sh w3 w3.heap.size _ _ v (by omega) (by omega) HR3.out (Nat.le_refl _) hc3 hm3).mono ?_)
           rintro e w4 ⟨rfl, hb4⟩
           have HB4 := Lib.hid hb4
           clear hb4)
        | ((refine (wrote_sh w1 w1.heap.size _ _ 5 (by omega) (by omega) HR1.out (Nat.le_refl _) hc1 hm1).mono ?_)
           rintro e w2 ⟨rfl, hb2⟩
           have HB2 := Lib.hid hb2
           clear hb2))))
  go_ret
  have z1 := HB1.out.size
  have z2 := HB2.out.size
  have z3 := HB3.out.size
  exact ⟨rfl, ((HB1.out.trans (HB2.out.mono z1)).trans (HB3.out.mono (by omega))).trans (HB4.out.mono (by omega))⟩
end Go.Proofs.YtephkecfpepmpaaGreatDoor
