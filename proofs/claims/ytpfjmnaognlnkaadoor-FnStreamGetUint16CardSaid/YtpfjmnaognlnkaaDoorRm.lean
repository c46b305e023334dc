/- Reader.ReadInt64, ReadInt16, ReadUint64, ReadUint16 at every form of an integer. PRINTED by wip/genrm.py. -/
import Derived.Test.YtpfjmnaognlnkaaDoorRe
import Derived.Test.YtpfjmnaognlnkaaDoorRj
import Derived.Test.YtpfjmnaognlnkaaDoorPg
namespace Go.Proofs.YtpfjmnaognlnkaaDoor
open Go.RowKit
set_option linter.unusedVariables false

theorem be1 (n : Int) : be n 1 = [n % 256] := by simp [be, byt]
theorem be2J (n : Int) : be n 2 = [n / 256 % 256, n % 256] := by simp [be, byt]
theorem be4J (n : Int) : be n 4 = [n / 16777216 % 256, n / 65536 % 256, n / 256 % 256, n % 256] := by simp [be, byt]
theorem be8J (n : Int) : be n 8 = [n / 72057594037927936 % 256, n / 281474976710656 % 256, n / 1099511627776 % 256, n / 4294967296 % 256, n / 16777216 % 256, n / 65536 % 256, n / 256 % 256, n % 256] := by simp [be, byt]
theorem RS.start {W : World} {B gr : Nat} {tot : List Int} (h : RS W B gr tot W) : ∃ gs gd sz ch xs, Blk W gr 82 (.pointer (some ⟨gs, 0, none⟩) :: xs) ∧ B ≤ gr ∧ SR W B gs gd sz ch tot W := h

set_option maxHeartbeats 4000000 in
set_option maxRecDepth 100000 in
theorem ReadInt64_fix (W : World) (B gr : Nat) (n : Int) (tot : List Int) (h : RS W B gr (([n] : List Int) ++ tot) W) (h0 : 0 ≤ n) (h1 : n < 128) :
    Calls Tryd.prog 19 #[.pointer (some ⟨gr, 0, none⟩)] W (fun e W' => e = .returned (.tuple #[.int .i64 n, .nilIface]) ∧ RS W B gr tot W') := by
  obtain ⟨gs, gd, sz, ch, xs, hb, hB, hs⟩ := h
  have q := hb.cell 0
  simp only [List.getElem?_cons_zero] at q
  have HS := Lib.hid hs
  have HR := Lib.hid hb
  clear hs hb
  go_enter Tryd.func19, Tryd.ntmps19
  go_wp2_with (first
    | (go_at_call 29
       go_must (
         (refine (PeekByte_calls W _ B gs gd sz ch (n) _ HS.out).mono ?_)
         rintro e w1 ⟨rfl, hs1⟩
         have hb1 := hs1.kt gr _ _ (by decide) (by decide) (by decide) HR.out
         have q1 := hb1.cell 0
         simp only [List.getElem?_cons_zero] at q1
         have HS1 := Lib.hid hs1
         have HR1 := Lib.hid hb1
         clear hs1 hb1))
    | (go_at_call 30
       go_must (
         (refine (isfix_yes _ _ (by omega) (by omega)).mono ?_)
         rintro e w' ⟨rfl, rfl⟩))
    | (go_at_call 31
       go_must (
         (refine (rfix_calls _ _).mono ?_)
         rintro e w' ⟨rfl, rfl⟩))
    | (go_at_call 32
       go_must (
         (refine (Skip_calls W _ B gs gd sz 1 ch 1 rfl _ HS1.out (by simp) (by omega) (by omega)).mono ?_)
         rintro e w2 ⟨rfl, hs2⟩
         have hs2' : SR W B gs gd sz ch tot w2 := hs2
         have hb2 := hs2'.kt gr _ _ (by decide) (by decide) (by decide) HR.out
         have HS2 := Lib.hid hs2'
         have HR2 := Lib.hid hb2
         clear hs2 hs2' hb2)))
  go_ret2
  exact ⟨rfl, gs, gd, sz, ch, xs, HR2.out, hB, HS2.out⟩

set_option maxHeartbeats 4000000 in
set_option maxRecDepth 100000 in
theorem ReadInt64_neg (W : World) (B gr : Nat) (n : Int) (tot : List Int) (h : RS W B gr (([n + 256] : List Int) ++ tot) W) (h0 : -32 ≤ n) (h1 : n < 0) :
    Calls Tryd.prog 19 #[.pointer (some ⟨gr, 0, none⟩)] W (fun e W' => e = .returned (.tuple #[.int .i64 n, .nilIface]) ∧ RS W B gr tot W') := by
  obtain ⟨gs, gd, sz, ch, xs, hb, hB, hs⟩ := h
  have q := hb.cell 0
  simp only [List.getElem?_cons_zero] at q
  have HS := Lib.hid hs
  have HR := Lib.hid hb
  clear hs hb
  go_enter Tryd.func19, Tryd.ntmps19
  go_wp2_with (first
    | (go_at_call 29
       go_must (
         (refine (PeekByte_calls W _ B gs gd sz ch (n + 256) _ HS.out).mono ?_)
         rintro e w1 ⟨rfl, hs1⟩
         have hb1 := hs1.kt gr _ _ (by decide) (by decide) (by decide) HR.out
         have q1 := hb1.cell 0
         simp only [List.getElem?_cons_zero] at q1
         have HS1 := Lib.hid hs1
         have HR1 := Lib.hid hb1
         clear hs1 hb1))
    | (go_at_call 30
       go_must (
         (refine (isfix_no _ _ (by omega) (by omega)).mono ?_)
         rintro e w' ⟨rfl, rfl⟩))
    | (go_at_call 33
       go_must (
         (refine (isnfix_calls _ _ (by omega) (by omega)).mono ?_)
         rintro e w' ⟨rfl, rfl⟩))
    | (go_at_call 34
       go_must (
         (refine (rnfix_calls _ _ (by omega) (by omega)).mono ?_)
         rintro e w' ⟨rfl, rfl⟩))
    | (go_at_call 32
       go_must (
         (refine (Skip_calls W _ B gs gd sz 1 ch 1 rfl _ HS1.out (by simp) (by omega) (by omega)).mono ?_)
         rintro e w2 ⟨rfl, hs2⟩
         have hs2' : SR W B gs gd sz ch tot w2 := hs2
         have hb2 := hs2'.kt gr _ _ (by decide) (by decide) (by decide) HR.out
         have HS2 := Lib.hid hs2'
         have HR2 := Lib.hid hb2
         clear hs2 hs2' hb2)))
  go_ret2
  exact ⟨rfl, gs, gd, sz, ch, xs, HR2.out, hB, HS2.out⟩

set_option maxHeartbeats 4000000 in
set_option maxRecDepth 100000 in
theorem ReadInt64_u1 (W : World) (B gr : Nat) (n : Int) (tot : List Int) (h : RS W B gr (([204, n % 256] : List Int) ++ tot) W) (h0 : 0 ≤ n) (h1 : n ≤ 255) :
    Calls Tryd.prog 19 #[.pointer (some ⟨gr, 0, none⟩)] W (fun e W' => e = .returned (.tuple #[.int .i64 n, .nilIface]) ∧ RS W B gr tot W') := by
  obtain ⟨gs, gd, sz, ch, xs, hb, hB, hs⟩ := h
  have q := hb.cell 0
  simp only [List.getElem?_cons_zero] at q
  have HS := Lib.hid hs
  have HR := Lib.hid hb
  clear hs hb
  go_enter Tryd.func19, Tryd.ntmps19
  go_wp2_with (first
    | (go_at_call 29
       go_must (
         (refine (PeekByte_calls W _ B gs gd sz ch (204) _ HS.out).mono ?_)
         rintro e w1 ⟨rfl, hs1⟩
         have hb1 := hs1.kt gr _ _ (by decide) (by decide) (by decide) HR.out
         have q1 := hb1.cell 0
         simp only [List.getElem?_cons_zero] at q1
         have HS1 := Lib.hid hs1
         have HR1 := Lib.hid hb1
         clear hs1 hb1))
    | (go_at_call 30
       go_must (
         (refine (isfix_no _ _ (by omega) (by omega)).mono ?_)
         rintro e w' ⟨rfl, rfl⟩))
    | (go_at_call 33
       go_must (
         (refine (isnfix_calls _ _ (by omega) (by omega)).mono ?_)
         rintro e w' ⟨rfl, rfl⟩))
    | (go_at_call 35
       go_must (
         (refine (Next_calls W _ B gs gd sz 2 ch 2 rfl _ HS1.out (by simp) (by omega) (by omega)).mono ?_)
         rintro e w2 ⟨A2, c2, rfl, hc2, hx2, hr2, hs2⟩
         have hs2' : SR W B gs gd sz ch tot w2 := hs2
         have hr2' : Reads w2 w2.heap.size 1 A2 2 (bs [204, n % 256]) := hr2
         have hb2 := hs2'.kt gr _ _ (by decide) (by decide) (by decide) HR.out
         obtain ⟨ad2, hA2, _, _⟩ := hr2'.2 (by omega)
         subst hA2
         have HS2 := Lib.hid hs2'
         have HR2 := Lib.hid hb2
         have HRD2 := Lib.hid hr2'
         clear hs2 hs2' hr2 hr2' hb2))
    | (go_at_call 37
       go_must (
         (refine (getMuint8_at w2 w2.heap.size _ ad2 204 n HRD2.out (by omega) (by omega)).mono ?_)
         rintro e w3 ⟨rfl, m3, rfl⟩)))
  go_ret2
  exact ⟨rfl, gs, gd, sz, ch, xs, HR2.out.drewN m3, hB, HS2.out.drewN m3⟩

set_option maxHeartbeats 4000000 in
set_option maxRecDepth 100000 in
theorem ReadInt64_u2 (W : World) (B gr : Nat) (n : Int) (tot : List Int) (h : RS W B gr (([205, n / 256 % 256, n % 256] : List Int) ++ tot) W) (h0 : 0 ≤ n) (h1 : n ≤ 65535) :
    Calls Tryd.prog 19 #[.pointer (some ⟨gr, 0, none⟩)] W (fun e W' => e = .returned (.tuple #[.int .i64 n, .nilIface]) ∧ RS W B gr tot W') := by
  obtain ⟨gs, gd, sz, ch, xs, hb, hB, hs⟩ := h
  have q := hb.cell 0
  simp only [List.getElem?_cons_zero] at q
  have HS := Lib.hid hs
  have HR := Lib.hid hb
  clear hs hb
  go_enter Tryd.func19, Tryd.ntmps19
  go_wp2_with (first
    | (go_at_call 29
       go_must (
         (refine (PeekByte_calls W _ B gs gd sz ch (205) _ HS.out).mono ?_)
         rintro e w1 ⟨rfl, hs1⟩
         have hb1 := hs1.kt gr _ _ (by decide) (by decide) (by decide) HR.out
         have q1 := hb1.cell 0
         simp only [List.getElem?_cons_zero] at q1
         have HS1 := Lib.hid hs1
         have HR1 := Lib.hid hb1
         clear hs1 hb1))
    | (go_at_call 30
       go_must (
         (refine (isfix_no _ _ (by omega) (by omega)).mono ?_)
         rintro e w' ⟨rfl, rfl⟩))
    | (go_at_call 33
       go_must (
         (refine (isnfix_calls _ _ (by omega) (by omega)).mono ?_)
         rintro e w' ⟨rfl, rfl⟩))
    | (go_at_call 35
       go_must (
         (refine (Next_calls W _ B gs gd sz 3 ch 3 rfl _ HS1.out (by simp) (by omega) (by omega)).mono ?_)
         rintro e w2 ⟨A2, c2, rfl, hc2, hx2, hr2, hs2⟩
         have hs2' : SR W B gs gd sz ch tot w2 := hs2
         have hr2' : Reads w2 w2.heap.size 1 A2 3 (bs [205, n / 256 % 256, n % 256]) := hr2
         have hb2 := hs2'.kt gr _ _ (by decide) (by decide) (by decide) HR.out
         obtain ⟨ad2, hA2, _, _⟩ := hr2'.2 (by omega)
         subst hA2
         have HS2 := Lib.hid hs2'
         have HR2 := Lib.hid hb2
         have HRD2 := Lib.hid hr2'
         clear hs2 hs2' hr2 hr2' hb2))
    | (go_at_call 39
       go_must (
         (refine (getMuint16_at w2 w2.heap.size _ ad2 205 n HRD2.out (by omega) (by omega)).mono ?_)
         rintro e w3 ⟨rfl, m3, rfl⟩)))
  go_ret2
  exact ⟨rfl, gs, gd, sz, ch, xs, HR2.out.drewN m3, hB, HS2.out.drewN m3⟩

set_option maxHeartbeats 4000000 in
set_option maxRecDepth 100000 in
theorem ReadInt64_u4 (W : World) (B gr : Nat) (n : Int) (tot : List Int) (h : RS W B gr (([206, n / 16777216 % 256, n / 65536 % 256, n / 256 % 256, n % 256] : List Int) ++ tot) W) (h0 : 0 ≤ n) (h1 : n ≤ 4294967295) :
    Calls Tryd.prog 19 #[.pointer (some ⟨gr, 0, none⟩)] W (fun e W' => e = .returned (.tuple #[.int .i64 n, .nilIface]) ∧ RS W B gr tot W') := by
  obtain ⟨gs, gd, sz, ch, xs, hb, hB, hs⟩ := h
  have q := hb.cell 0
  simp only [List.getElem?_cons_zero] at q
  have HS := Lib.hid hs
  have HR := Lib.hid hb
  clear hs hb
  go_enter Tryd.func19, Tryd.ntmps19
  go_wp2_with (first
    | (go_at_call 29
       go_must (
         (refine (PeekByte_calls W _ B gs gd sz ch (206) _ HS.out).mono ?_)
         rintro e w1 ⟨rfl, hs1⟩
         have hb1 := hs1.kt gr _ _ (by decide) (by decide) (by decide) HR.out
         have q1 := hb1.cell 0
         simp only [List.getElem?_cons_zero] at q1
         have HS1 := Lib.hid hs1
         have HR1 := Lib.hid hb1
         clear hs1 hb1))
    | (go_at_call 30
       go_must (
         (refine (isfix_no _ _ (by omega) (by omega)).mono ?_)
         rintro e w' ⟨rfl, rfl⟩))
    | (go_at_call 33
       go_must (
         (refine (isnfix_calls _ _ (by omega) (by omega)).mono ?_)
         rintro e w' ⟨rfl, rfl⟩))
    | (go_at_call 35
       go_must (
         (refine (Next_calls W _ B gs gd sz 5 ch 5 rfl _ HS1.out (by simp) (by omega) (by omega)).mono ?_)
         rintro e w2 ⟨A2, c2, rfl, hc2, hx2, hr2, hs2⟩
         have hs2' : SR W B gs gd sz ch tot w2 := hs2
         have hr2' : Reads w2 w2.heap.size 1 A2 5 (bs [206, n / 16777216 % 256, n / 65536 % 256, n / 256 % 256, n % 256]) := hr2
         have hb2 := hs2'.kt gr _ _ (by decide) (by decide) (by decide) HR.out
         obtain ⟨ad2, hA2, _, _⟩ := hr2'.2 (by omega)
         subst hA2
         have HS2 := Lib.hid hs2'
         have HR2 := Lib.hid hb2
         have HRD2 := Lib.hid hr2'
         clear hs2 hs2' hr2 hr2' hb2))
    | (go_at_call 41
       go_must (
         (refine (getMuint32_at w2 w2.heap.size _ ad2 206 n HRD2.out (by omega) (by omega)).mono ?_)
         rintro e w3 ⟨rfl, m3, rfl⟩)))
  go_ret2
  exact ⟨rfl, gs, gd, sz, ch, xs, HR2.out.drewN m3, hB, HS2.out.drewN m3⟩

set_option maxHeartbeats 4000000 in
set_option maxRecDepth 100000 in
theorem ReadInt64_u8 (W : World) (B gr : Nat) (n : Int) (tot : List Int) (h : RS W B gr (([207, n / 72057594037927936 % 256, n / 281474976710656 % 256, n / 1099511627776 % 256, n / 4294967296 % 256, n / 16777216 % 256, n / 65536 % 256, n / 256 % 256, n % 256] : List Int) ++ tot) W) (h0 : 0 ≤ n) (h1 : n ≤ 9223372036854775807) :
    Calls Tryd.prog 19 #[.pointer (some ⟨gr, 0, none⟩)] W (fun e W' => e = .returned (.tuple #[.int .i64 n, .nilIface]) ∧ RS W B gr tot W') := by
  obtain ⟨gs, gd, sz, ch, xs, hb, hB, hs⟩ := h
  have q := hb.cell 0
  simp only [List.getElem?_cons_zero] at q
  have HS := Lib.hid hs
  have HR := Lib.hid hb
  clear hs hb
  go_enter Tryd.func19, Tryd.ntmps19
  go_wp2_with (first
    | (go_at_call 29
       go_must (
         (refine (PeekByte_calls W _ B gs gd sz ch (207) _ HS.out).mono ?_)
         rintro e w1 ⟨rfl, hs1⟩
         have hb1 := hs1.kt gr _ _ (by decide) (by decide) (by decide) HR.out
         have q1 := hb1.cell 0
         simp only [List.getElem?_cons_zero] at q1
         have HS1 := Lib.hid hs1
         have HR1 := Lib.hid hb1
         clear hs1 hb1))
    | (go_at_call 30
       go_must (
         (refine (isfix_no _ _ (by omega) (by omega)).mono ?_)
         rintro e w' ⟨rfl, rfl⟩))
    | (go_at_call 33
       go_must (
         (refine (isnfix_calls _ _ (by omega) (by omega)).mono ?_)
         rintro e w' ⟨rfl, rfl⟩))
    | (go_at_call 35
       go_must (
         (refine (Next_calls W _ B gs gd sz 9 ch 9 rfl _ HS1.out (by simp) (by omega) (by omega)).mono ?_)
         rintro e w2 ⟨A2, c2, rfl, hc2, hx2, hr2, hs2⟩
         have hs2' : SR W B gs gd sz ch tot w2 := hs2
         have hr2' : Reads w2 w2.heap.size 1 A2 9 (bs [207, n / 72057594037927936 % 256, n / 281474976710656 % 256, n / 1099511627776 % 256, n / 4294967296 % 256, n / 16777216 % 256, n / 65536 % 256, n / 256 % 256, n % 256]) := hr2
         have hb2 := hs2'.kt gr _ _ (by decide) (by decide) (by decide) HR.out
         obtain ⟨ad2, hA2, _, _⟩ := hr2'.2 (by omega)
         subst hA2
         have HS2 := Lib.hid hs2'
         have HR2 := Lib.hid hb2
         have HRD2 := Lib.hid hr2'
         clear hs2 hs2' hr2 hr2' hb2))
    | (go_at_call 43
       go_must (
         (refine (getMuint64_at w2 w2.heap.size _ ad2 207 n HRD2.out (by omega) (by omega)).mono ?_)
         rintro e w3 ⟨rfl, m3, rfl⟩)))
  go_ret2
  exact ⟨rfl, gs, gd, sz, ch, xs, HR2.out.drewN m3, hB, HS2.out.drewN m3⟩

set_option maxHeartbeats 4000000 in
set_option maxRecDepth 100000 in
theorem ReadInt64_i1 (W : World) (B gr : Nat) (n : Int) (tot : List Int) (h : RS W B gr (([208, n % 256] : List Int) ++ tot) W) (h0 : -128 ≤ n) (h1 : n ≤ 127) :
    Calls Tryd.prog 19 #[.pointer (some ⟨gr, 0, none⟩)] W (fun e W' => e = .returned (.tuple #[.int .i64 n, .nilIface]) ∧ RS W B gr tot W') := by
  obtain ⟨gs, gd, sz, ch, xs, hb, hB, hs⟩ := h
  have q := hb.cell 0
  simp only [List.getElem?_cons_zero] at q
  have HS := Lib.hid hs
  have HR := Lib.hid hb
  clear hs hb
  go_enter Tryd.func19, Tryd.ntmps19
  go_wp2_with (first
    | (go_at_call 29
       go_must (
         (refine (PeekByte_calls W _ B gs gd sz ch (208) _ HS.out).mono ?_)
         rintro e w1 ⟨rfl, hs1⟩
         have hb1 := hs1.kt gr _ _ (by decide) (by decide) (by decide) HR.out
         have q1 := hb1.cell 0
         simp only [List.getElem?_cons_zero] at q1
         have HS1 := Lib.hid hs1
         have HR1 := Lib.hid hb1
         clear hs1 hb1))
    | (go_at_call 30
       go_must (
         (refine (isfix_no _ _ (by omega) (by omega)).mono ?_)
         rintro e w' ⟨rfl, rfl⟩))
    | (go_at_call 33
       go_must (
         (refine (isnfix_calls _ _ (by omega) (by omega)).mono ?_)
         rintro e w' ⟨rfl, rfl⟩))
    | (go_at_call 35
       go_must (
         (refine (Next_calls W _ B gs gd sz 2 ch 2 rfl _ HS1.out (by simp) (by omega) (by omega)).mono ?_)
         rintro e w2 ⟨A2, c2, rfl, hc2, hx2, hr2, hs2⟩
         have hs2' : SR W B gs gd sz ch tot w2 := hs2
         have hr2' : Reads w2 w2.heap.size 1 A2 2 (bs [208, n % 256]) := hr2
         have hb2 := hs2'.kt gr _ _ (by decide) (by decide) (by decide) HR.out
         obtain ⟨ad2, hA2, _, _⟩ := hr2'.2 (by omega)
         subst hA2
         have HS2 := Lib.hid hs2'
         have HR2 := Lib.hid hb2
         have HRD2 := Lib.hid hr2'
         clear hs2 hs2' hr2 hr2' hb2))
    | (go_at_call 36
       go_must (
         (refine (getMint8_at w2 w2.heap.size _ ad2 208 n HRD2.out (by omega) (by omega)).mono ?_)
         rintro e w3 ⟨rfl, m3, rfl⟩)))
  go_ret2
  exact ⟨rfl, gs, gd, sz, ch, xs, HR2.out.drewN m3, hB, HS2.out.drewN m3⟩

set_option maxHeartbeats 4000000 in
set_option maxRecDepth 100000 in
theorem ReadInt64_i2 (W : World) (B gr : Nat) (n : Int) (tot : List Int) (h : RS W B gr (([209, n / 256 % 256, n % 256] : List Int) ++ tot) W) (h0 : -32768 ≤ n) (h1 : n ≤ 32767) :
    Calls Tryd.prog 19 #[.pointer (some ⟨gr, 0, none⟩)] W (fun e W' => e = .returned (.tuple #[.int .i64 n, .nilIface]) ∧ RS W B gr tot W') := by
  obtain ⟨gs, gd, sz, ch, xs, hb, hB, hs⟩ := h
  have q := hb.cell 0
  simp only [List.getElem?_cons_zero] at q
  have HS := Lib.hid hs
  have HR := Lib.hid hb
  clear hs hb
  go_enter Tryd.func19, Tryd.ntmps19
  go_wp2_with (first
    | (go_at_call 29
       go_must (
         (refine (PeekByte_calls W _ B gs gd sz ch (209) _ HS.out).mono ?_)
         rintro e w1 ⟨rfl, hs1⟩
         have hb1 := hs1.kt gr _ _ (by decide) (by decide) (by decide) HR.out
         have q1 := hb1.cell 0
         simp only [List.getElem?_cons_zero] at q1
         have HS1 := Lib.hid hs1
         have HR1 := Lib.hid hb1
         clear hs1 hb1))
    | (go_at_call 30
       go_must (
         (refine (isfix_no _ _ (by omega) (by omega)).mono ?_)
         rintro e w' ⟨rfl, rfl⟩))
    | (go_at_call 33
       go_must (
         (refine (isnfix_calls _ _ (by omega) (by omega)).mono ?_)
         rintro e w' ⟨rfl, rfl⟩))
    | (go_at_call 35
       go_must (
         (refine (Next_calls W _ B gs gd sz 3 ch 3 rfl _ HS1.out (by simp) (by omega) (by omega)).mono ?_)
         rintro e w2 ⟨A2, c2, rfl, hc2, hx2, hr2, hs2⟩
         have hs2' : SR W B gs gd sz ch tot w2 := hs2
         have hr2' : Reads w2 w2.heap.size 1 A2 3 (bs [209, n / 256 % 256, n % 256]) := hr2
         have hb2 := hs2'.kt gr _ _ (by decide) (by decide) (by decide) HR.out
         obtain ⟨ad2, hA2, _, _⟩ := hr2'.2 (by omega)
         subst hA2
         have HS2 := Lib.hid hs2'
         have HR2 := Lib.hid hb2
         have HRD2 := Lib.hid hr2'
         clear hs2 hs2' hr2 hr2' hb2))
    | (go_at_call 38
       go_must (
         (refine (getMint16_at w2 w2.heap.size _ ad2 209 n HRD2.out (by omega) (by omega)).mono ?_)
         rintro e w3 ⟨rfl, m3, rfl⟩)))
  go_ret2
  exact ⟨rfl, gs, gd, sz, ch, xs, HR2.out.drewN m3, hB, HS2.out.drewN m3⟩

set_option maxHeartbeats 4000000 in
set_option maxRecDepth 100000 in
theorem ReadInt64_i4 (W : World) (B gr : Nat) (n : Int) (tot : List Int) (h : RS W B gr (([210, n / 16777216 % 256, n / 65536 % 256, n / 256 % 256, n % 256] : List Int) ++ tot) W) (h0 : -2147483648 ≤ n) (h1 : n ≤ 2147483647) :
    Calls Tryd.prog 19 #[.pointer (some ⟨gr, 0, none⟩)] W (fun e W' => e = .returned (.tuple #[.int .i64 n, .nilIface]) ∧ RS W B gr tot W') := by
  obtain ⟨gs, gd, sz, ch, xs, hb, hB, hs⟩ := h
  have q := hb.cell 0
  simp only [List.getElem?_cons_zero] at q
  have HS := Lib.hid hs
  have HR := Lib.hid hb
  clear hs hb
  go_enter Tryd.func19, Tryd.ntmps19
  go_wp2_with (first
    | (go_at_call 29
       go_must (
         (refine (PeekByte_calls W _ B gs gd sz ch (210) _ HS.out).mono ?_)
         rintro e w1 ⟨rfl, hs1⟩
         have hb1 := hs1.kt gr _ _ (by decide) (by decide) (by decide) HR.out
         have q1 := hb1.cell 0
         simp only [List.getElem?_cons_zero] at q1
         have HS1 := Lib.hid hs1
         have HR1 := Lib.hid hb1
         clear hs1 hb1))
    | (go_at_call 30
       go_must (
         (refine (isfix_no _ _ (by omega) (by omega)).mono ?_)
         rintro e w' ⟨rfl, rfl⟩))
    | (go_at_call 33
       go_must (
         (refine (isnfix_calls _ _ (by omega) (by omega)).mono ?_)
         rintro e w' ⟨rfl, rfl⟩))
    | (go_at_call 35
       go_must (
         (refine (Next_calls W _ B gs gd sz 5 ch 5 rfl _ HS1.out (by simp) (by omega) (by omega)).mono ?_)
         rintro e w2 ⟨A2, c2, rfl, hc2, hx2, hr2, hs2⟩
         have hs2' : SR W B gs gd sz ch tot w2 := hs2
         have hr2' : Reads w2 w2.heap.size 1 A2 5 (bs [210, n / 16777216 % 256, n / 65536 % 256, n / 256 % 256, n % 256]) := hr2
         have hb2 := hs2'.kt gr _ _ (by decide) (by decide) (by decide) HR.out
         obtain ⟨ad2, hA2, _, _⟩ := hr2'.2 (by omega)
         subst hA2
         have HS2 := Lib.hid hs2'
         have HR2 := Lib.hid hb2
         have HRD2 := Lib.hid hr2'
         clear hs2 hs2' hr2 hr2' hb2))
    | (go_at_call 40
       go_must (
         (refine (getMint32_at w2 w2.heap.size _ ad2 210 n HRD2.out (by omega) (by omega)).mono ?_)
         rintro e w3 ⟨rfl, m3, rfl⟩)))
  go_ret2
  exact ⟨rfl, gs, gd, sz, ch, xs, HR2.out.drewN m3, hB, HS2.out.drewN m3⟩

set_option maxHeartbeats 4000000 in
set_option maxRecDepth 100000 in
theorem ReadInt64_i8 (W : World) (B gr : Nat) (n : Int) (tot : List Int) (h : RS W B gr (([211, n / 72057594037927936 % 256, n / 281474976710656 % 256, n / 1099511627776 % 256, n / 4294967296 % 256, n / 16777216 % 256, n / 65536 % 256, n / 256 % 256, n % 256] : List Int) ++ tot) W) (h0 : -9223372036854775808 ≤ n) (h1 : n ≤ 9223372036854775807) :
    Calls Tryd.prog 19 #[.pointer (some ⟨gr, 0, none⟩)] W (fun e W' => e = .returned (.tuple #[.int .i64 n, .nilIface]) ∧ RS W B gr tot W') := by
  obtain ⟨gs, gd, sz, ch, xs, hb, hB, hs⟩ := h
  have q := hb.cell 0
  simp only [List.getElem?_cons_zero] at q
  have HS := Lib.hid hs
  have HR := Lib.hid hb
  clear hs hb
  go_enter Tryd.func19, Tryd.ntmps19
  go_wp2_with (first
    | (go_at_call 29
       go_must (
         (refine (PeekByte_calls W _ B gs gd sz ch (211) _ HS.out).mono ?_)
         rintro e w1 ⟨rfl, hs1⟩
         have hb1 := hs1.kt gr _ _ (by decide) (by decide) (by decide) HR.out
         have q1 := hb1.cell 0
         simp only [List.getElem?_cons_zero] at q1
         have HS1 := Lib.hid hs1
         have HR1 := Lib.hid hb1
         clear hs1 hb1))
    | (go_at_call 30
       go_must (
         (refine (isfix_no _ _ (by omega) (by omega)).mono ?_)
         rintro e w' ⟨rfl, rfl⟩))
    | (go_at_call 33
       go_must (
         (refine (isnfix_calls _ _ (by omega) (by omega)).mono ?_)
         rintro e w' ⟨rfl, rfl⟩))
    | (go_at_call 35
       go_must (
         (refine (Next_calls W _ B gs gd sz 9 ch 9 rfl _ HS1.out (by simp) (by omega) (by omega)).mono ?_)
         rintro e w2 ⟨A2, c2, rfl, hc2, hx2, hr2, hs2⟩
         have hs2' : SR W B gs gd sz ch tot w2 := hs2
         have hr2' : Reads w2 w2.heap.size 1 A2 9 (bs [211, n / 72057594037927936 % 256, n / 281474976710656 % 256, n / 1099511627776 % 256, n / 4294967296 % 256, n / 16777216 % 256, n / 65536 % 256, n / 256 % 256, n % 256]) := hr2
         have hb2 := hs2'.kt gr _ _ (by decide) (by decide) (by decide) HR.out
         obtain ⟨ad2, hA2, _, _⟩ := hr2'.2 (by omega)
         subst hA2
         have HS2 := Lib.hid hs2'
         have HR2 := Lib.hid hb2
         have HRD2 := Lib.hid hr2'
         clear hs2 hs2' hr2 hr2' hb2))
    | (go_at_call 42
       go_must (
         (refine (getMint64_at w2 w2.heap.size _ ad2 211 n HRD2.out (by omega) (by omega)).mono ?_)
         rintro e w3 ⟨rfl, m3, rfl⟩)))
  go_ret2
  exact ⟨rfl, gs, gd, sz, ch, xs, HR2.out.drewN m3, hB, HS2.out.drewN m3⟩

theorem ReadInt64_calls (w0 W : World) (B gr : Nat) (n : Int) (enc : List Int) (hf : IntF n enc) (h0 : -9223372036854775808 ≤ n) (h1 : n ≤ 9223372036854775807) (tot : List Int) (h : RS w0 B gr (enc ++ tot) W) :
    Calls Tryd.prog 19 #[.pointer (some ⟨gr, 0, none⟩)] W (fun e W' => e = .returned (.tuple #[.int .i64 n, .nilIface]) ∧ RS w0 B gr tot W') := by
  suffices hs : RS W B gr (enc ++ tot) W → Calls Tryd.prog 19 #[.pointer (some ⟨gr, 0, none⟩)] W (fun e W' => e = .returned (.tuple #[.int .i64 n, .nilIface]) ∧ RS W B gr tot W') from
    (hs h.self).mono fun _ _ ⟨he, hr⟩ => ⟨he, hr.base h.bel h.kt⟩
  clear h
  intro h
  have e1 : (2 : Int) ^ (8 * 1) = 256 := by decide
  have e2 : (2 : Int) ^ (8 * 2) = 65536 := by decide
  have e4 : (2 : Int) ^ (8 * 4) = 4294967296 := by decide
  rcases hf with ⟨a, b, rfl⟩ | ⟨a, b, rfl⟩ | ⟨p, hp, hok, a, rfl⟩ | ⟨p, hp, a, b, rfl⟩
  · exact ReadInt64_fix W B gr n tot h a b
  · exact ReadInt64_neg W B gr n tot h a b
  · simp only [List.mem_cons, List.not_mem_nil, or_false] at hp
    rcases hp with rfl | rfl | rfl | rfl
    · simp only [okF, e1, Bool.or_eq_true, decide_eq_true_eq] at hok
      simp only [be1] at h
      exact ReadInt64_u1 W B gr n tot h a (by omega)
    · simp only [okF, e2, Bool.or_eq_true, decide_eq_true_eq] at hok
      simp only [be2J] at h
      exact ReadInt64_u2 W B gr n tot h a (by omega)
    · simp only [okF, e4, Bool.or_eq_true, decide_eq_true_eq] at hok
      simp only [be4J] at h
      exact ReadInt64_u4 W B gr n tot h a (by omega)
    · simp only [be8J] at h
      exact ReadInt64_u8 W B gr n tot h a (by omega)
  · simp only [List.mem_cons, List.not_mem_nil, or_false] at hp
    rcases hp with rfl | rfl | rfl | rfl
    · simp only [Nat.reduceMul, Nat.reduceSub, Int.reducePow] at a b
      simp only [be1] at h
      exact ReadInt64_i1 W B gr n tot h (by omega) (by omega)
    · simp only [Nat.reduceMul, Nat.reduceSub, Int.reducePow] at a b
      simp only [be2J] at h
      exact ReadInt64_i2 W B gr n tot h (by omega) (by omega)
    · simp only [Nat.reduceMul, Nat.reduceSub, Int.reducePow] at a b
      simp only [be4J] at h
      exact ReadInt64_i4 W B gr n tot h (by omega) (by omega)
    · simp only [Nat.reduceMul, Nat.reduceSub, Int.reducePow] at a b
      simp only [be8J] at h
      exact ReadInt64_i8 W B gr n tot h (by omega) (by omega)

def FrmReadInt16 (n : Int) (e : List Int) : Prop := IntF n e ∧ -32768 ≤ n ∧ n ≤ 32767
set_option maxHeartbeats 2000000 in
set_option maxRecDepth 100000 in
theorem ReadInt16_calls (w0 W : World) (B gr : Nat) (n : Int) (enc : List Int) (hf : FrmReadInt16 n enc) (tot : List Int) (h : RS w0 B gr (enc ++ tot) W) :
    Calls Tryd.prog 13 #[.pointer (some ⟨gr, 0, none⟩)] W (fun e W' => e = .returned (.tuple #[.int .i16 n, .nilIface]) ∧ RS w0 B gr tot W') := by
  obtain ⟨hi, h0, h1⟩ := hf
  have H := Lib.hid h
  have HI := Lib.hid hi
  clear h hi
  go_enter Tryd.func13, Tryd.ntmps13
  go_wp2_with (
    (go_at_call 19)
    go_must (
      (refine (ReadInt64_calls w0 _ B gr n enc HI.out (by omega) (by omega) tot H.out).mono ?_)
      rintro e w1 ⟨rfl, hr⟩
      have HR := Lib.hid hr
      clear hr))
  go_ret2
  exact ⟨rfl, HR.out⟩

set_option maxHeartbeats 4000000 in
set_option maxRecDepth 100000 in
theorem ReadUint64_fix (W : World) (B gr : Nat) (n : Int) (tot : List Int) (h : RS W B gr (([n] : List Int) ++ tot) W) (h0 : 0 ≤ n) (h1 : n < 128) :
    Calls Tryd.prog 24 #[.pointer (some ⟨gr, 0, none⟩)] W (fun e W' => e = .returned (.tuple #[.int .u64 n, .nilIface]) ∧ RS W B gr tot W') := by
  obtain ⟨gs, gd, sz, ch, xs, hb, hB, hs⟩ := h
  have q := hb.cell 0
  simp only [List.getElem?_cons_zero] at q
  have HS := Lib.hid hs
  have HR := Lib.hid hb
  clear hs hb
  go_enter Tryd.func24, Tryd.ntmps24
  go_wp2_with (first
    | (go_at_call 29
       go_must (
         (refine (PeekByte_calls W _ B gs gd sz ch (n) _ HS.out).mono ?_)
         rintro e w1 ⟨rfl, hs1⟩
         have hb1 := hs1.kt gr _ _ (by decide) (by decide) (by decide) HR.out
         have q1 := hb1.cell 0
         simp only [List.getElem?_cons_zero] at q1
         have HS1 := Lib.hid hs1
         have HR1 := Lib.hid hb1
         clear hs1 hb1))
    | (go_at_call 30
       go_must (
         (refine (isfix_yes _ _ (by omega) (by omega)).mono ?_)
         rintro e w' ⟨rfl, rfl⟩))
    | (go_at_call 31
       go_must (
         (refine (rfix_calls _ _).mono ?_)
         rintro e w' ⟨rfl, rfl⟩))
    | (go_at_call 32
       go_must (
         (refine (Skip_calls W _ B gs gd sz 1 ch 1 rfl _ HS1.out (by simp) (by omega) (by omega)).mono ?_)
         rintro e w2 ⟨rfl, hs2⟩
         have hs2' : SR W B gs gd sz ch tot w2 := hs2
         have hb2 := hs2'.kt gr _ _ (by decide) (by decide) (by decide) HR.out
         have HS2 := Lib.hid hs2'
         have HR2 := Lib.hid hb2
         clear hs2 hs2' hb2)))
  go_ret2
  exact ⟨rfl, gs, gd, sz, ch, xs, HR2.out, hB, HS2.out⟩

set_option maxHeartbeats 4000000 in
set_option maxRecDepth 100000 in
theorem ReadUint64_u1 (W : World) (B gr : Nat) (n : Int) (tot : List Int) (h : RS W B gr (([204, n % 256] : List Int) ++ tot) W) (h0 : 0 ≤ n) (h1 : n ≤ 255) :
    Calls Tryd.prog 24 #[.pointer (some ⟨gr, 0, none⟩)] W (fun e W' => e = .returned (.tuple #[.int .u64 n, .nilIface]) ∧ RS W B gr tot W') := by
  obtain ⟨gs, gd, sz, ch, xs, hb, hB, hs⟩ := h
  have q := hb.cell 0
  simp only [List.getElem?_cons_zero] at q
  have HS := Lib.hid hs
  have HR := Lib.hid hb
  clear hs hb
  go_enter Tryd.func24, Tryd.ntmps24
  go_wp2_with (first
    | (go_at_call 29
       go_must (
         (refine (PeekByte_calls W _ B gs gd sz ch (204) _ HS.out).mono ?_)
         rintro e w1 ⟨rfl, hs1⟩
         have hb1 := hs1.kt gr _ _ (by decide) (by decide) (by decide) HR.out
         have q1 := hb1.cell 0
         simp only [List.getElem?_cons_zero] at q1
         have HS1 := Lib.hid hs1
         have HR1 := Lib.hid hb1
         clear hs1 hb1))
    | (go_at_call 30
       go_must (
         (refine (isfix_no _ _ (by omega) (by omega)).mono ?_)
         rintro e w' ⟨rfl, rfl⟩))
    | (go_at_call 35
       go_must (
         (refine (Next_calls W _ B gs gd sz 2 ch 2 rfl _ HS1.out (by simp) (by omega) (by omega)).mono ?_)
         rintro e w2 ⟨A2, c2, rfl, hc2, hx2, hr2, hs2⟩
         have hs2' : SR W B gs gd sz ch tot w2 := hs2
         have hr2' : Reads w2 w2.heap.size 1 A2 2 (bs [204, n % 256]) := hr2
         have hb2 := hs2'.kt gr _ _ (by decide) (by decide) (by decide) HR.out
         obtain ⟨ad2, hA2, _, _⟩ := hr2'.2 (by omega)
         subst hA2
         have HS2 := Lib.hid hs2'
         have HR2 := Lib.hid hb2
         have HRD2 := Lib.hid hr2'
         clear hs2 hs2' hr2 hr2' hb2))
    | (go_at_call 37
       go_must (
         (refine (getMuint8_at w2 w2.heap.size _ ad2 204 n HRD2.out (by omega) (by omega)).mono ?_)
         rintro e w3 ⟨rfl, m3, rfl⟩)))
  go_ret2
  exact ⟨rfl, gs, gd, sz, ch, xs, HR2.out.drewN m3, hB, HS2.out.drewN m3⟩

set_option maxHeartbeats 4000000 in
set_option maxRecDepth 100000 in
theorem ReadUint64_u2 (W : World) (B gr : Nat) (n : Int) (tot : List Int) (h : RS W B gr (([205, n / 256 % 256, n % 256] : List Int) ++ tot) W) (h0 : 0 ≤ n) (h1 : n ≤ 65535) :
    Calls Tryd.prog 24 #[.pointer (some ⟨gr, 0, none⟩)] W (fun e W' => e = .returned (.tuple #[.int .u64 n, .nilIface]) ∧ RS W B gr tot W') := by
  obtain ⟨gs, gd, sz, ch, xs, hb, hB, hs⟩ := h
  have q := hb.cell 0
  simp only [List.getElem?_cons_zero] at q
  have HS := Lib.hid hs
  have HR := Lib.hid hb
  clear hs hb
  go_enter Tryd.func24, Tryd.ntmps24
  go_wp2_with (first
    | (go_at_call 29
       go_must (
         (refine (PeekByte_calls W _ B gs gd sz ch (205) _ HS.out).mono ?_)
         rintro e w1 ⟨rfl, hs1⟩
         have hb1 := hs1.kt gr _ _ (by decide) (by decide) (by decide) HR.out
         have q1 := hb1.cell 0
         simp only [List.getElem?_cons_zero] at q1
         have HS1 := Lib.hid hs1
         have HR1 := Lib.hid hb1
         clear hs1 hb1))
    | (go_at_call 30
       go_must (
         (refine (isfix_no _ _ (by omega) (by omega)).mono ?_)
         rintro e w' ⟨rfl, rfl⟩))
    | (go_at_call 35
       go_must (
         (refine (Next_calls W _ B gs gd sz 3 ch 3 rfl _ HS1.out (by simp) (by omega) (by omega)).mono ?_)
         rintro e w2 ⟨A2, c2, rfl, hc2, hx2, hr2, hs2⟩
         have hs2' : SR W B gs gd sz ch tot w2 := hs2
         have hr2' : Reads w2 w2.heap.size 1 A2 3 (bs [205, n / 256 % 256, n % 256]) := hr2
         have hb2 := hs2'.kt gr _ _ (by decide) (by decide) (by decide) HR.out
         obtain ⟨ad2, hA2, _, _⟩ := hr2'.2 (by omega)
         subst hA2
         have HS2 := Lib.hid hs2'
         have HR2 := Lib.hid hb2
         have HRD2 := Lib.hid hr2'
         clear hs2 hs2' hr2 hr2' hb2))
    | (go_at_call 39
       go_must (
         (refine (getMuint16_at w2 w2.heap.size _ ad2 205 n HRD2.out (by omega) (by omega)).mono ?_)
         rintro e w3 ⟨rfl, m3, rfl⟩)))
  go_ret2
  exact ⟨rfl, gs, gd, sz, ch, xs, HR2.out.drewN m3, hB, HS2.out.drewN m3⟩

set_option maxHeartbeats 4000000 in
set_option maxRecDepth 100000 in
theorem ReadUint64_u4 (W : World) (B gr : Nat) (n : Int) (tot : List Int) (h : RS W B gr (([206, n / 16777216 % 256, n / 65536 % 256, n / 256 % 256, n % 256] : List Int) ++ tot) W) (h0 : 0 ≤ n) (h1 : n ≤ 4294967295) :
    Calls Tryd.prog 24 #[.pointer (some ⟨gr, 0, none⟩)] W (fun e W' => e = .returned (.tuple #[.int .u64 n, .nilIface]) ∧ RS W B gr tot W') := by
  obtain ⟨gs, gd, sz, ch, xs, hb, hB, hs⟩ := h
  have q := hb.cell 0
  simp only [List.getElem?_cons_zero] at q
  have HS := Lib.hid hs
  have HR := Lib.hid hb
  clear hs hb
  go_enter Tryd.func24, Tryd.ntmps24
  go_wp2_with (first
    | (go_at_call 29
       go_must (
         (refine (PeekByte_calls W _ B gs gd sz ch (206) _ HS.out).mono ?_)
         rintro e w1 ⟨rfl, hs1⟩
         have hb1 := hs1.kt gr _ _ (by decide) (by decide) (by decide) HR.out
         have q1 := hb1.cell 0
         simp only [List.getElem?_cons_zero] at q1
         have HS1 := Lib.hid hs1
         have HR1 := Lib.hid hb1
         clear hs1 hb1))
    | (go_at_call 30
       go_must (
         (refine (isfix_no _ _ (by omega) (by omega)).mono ?_)
         rintro e w' ⟨rfl, rfl⟩))
    | (go_at_call 35
       go_must (
         (refine (Next_calls W _ B gs gd sz 5 ch 5 rfl _ HS1.out (by simp) (by omega) (by omega)).mono ?_)
         rintro e w2 ⟨A2, c2, rfl, hc2, hx2, hr2, hs2⟩
         have hs2' : SR W B gs gd sz ch tot w2 := hs2
         have hr2' : Reads w2 w2.heap.size 1 A2 5 (bs [206, n / 16777216 % 256, n / 65536 % 256, n / 256 % 256, n % 256]) := hr2
         have hb2 := hs2'.kt gr _ _ (by decide) (by decide) (by decide) HR.out
         obtain ⟨ad2, hA2, _, _⟩ := hr2'.2 (by omega)
         subst hA2
         have HS2 := Lib.hid hs2'
         have HR2 := Lib.hid hb2
         have HRD2 := Lib.hid hr2'
         clear hs2 hs2' hr2 hr2' hb2))
    | (go_at_call 41
       go_must (
         (refine (getMuint32_at w2 w2.heap.size _ ad2 206 n HRD2.out (by omega) (by omega)).mono ?_)
         rintro e w3 ⟨rfl, m3, rfl⟩)))
  go_ret2
  exact ⟨rfl, gs, gd, sz, ch, xs, HR2.out.drewN m3, hB, HS2.out.drewN m3⟩

set_option maxHeartbeats 4000000 in
set_option maxRecDepth 100000 in
theorem ReadUint64_u8 (W : World) (B gr : Nat) (n : Int) (tot : List Int) (h : RS W B gr (([207, n / 72057594037927936 % 256, n / 281474976710656 % 256, n / 1099511627776 % 256, n / 4294967296 % 256, n / 16777216 % 256, n / 65536 % 256, n / 256 % 256, n % 256] : List Int) ++ tot) W) (h0 : 0 ≤ n) (h1 : n ≤ 18446744073709551615) :
    Calls Tryd.prog 24 #[.pointer (some ⟨gr, 0, none⟩)] W (fun e W' => e = .returned (.tuple #[.int .u64 n, .nilIface]) ∧ RS W B gr tot W') := by
  obtain ⟨gs, gd, sz, ch, xs, hb, hB, hs⟩ := h
  have q := hb.cell 0
  simp only [List.getElem?_cons_zero] at q
  have HS := Lib.hid hs
  have HR := Lib.hid hb
  clear hs hb
  go_enter Tryd.func24, Tryd.ntmps24
  go_wp2_with (first
    | (go_at_call 29
       go_must (
         (refine (PeekByte_calls W _ B gs gd sz ch (207) _ HS.out).mono ?_)
         rintro e w1 ⟨rfl, hs1⟩
         have hb1 := hs1.kt gr _ _ (by decide) (by decide) (by decide) HR.out
         have q1 := hb1.cell 0
         simp only [List.getElem?_cons_zero] at q1
         have HS1 := Lib.hid hs1
         have HR1 := Lib.hid hb1
         clear hs1 hb1))
    | (go_at_call 30
       go_must (
         (refine (isfix_no _ _ (by omega) (by omega)).mono ?_)
         rintro e w' ⟨rfl, rfl⟩))
    | (go_at_call 35
       go_must (
         (refine (Next_calls W _ B gs gd sz 9 ch 9 rfl _ HS1.out (by simp) (by omega) (by omega)).mono ?_)
         rintro e w2 ⟨A2, c2, rfl, hc2, hx2, hr2, hs2⟩
         have hs2' : SR W B gs gd sz ch tot w2 := hs2
         have hr2' : Reads w2 w2.heap.size 1 A2 9 (bs [207, n / 72057594037927936 % 256, n / 281474976710656 % 256, n / 1099511627776 % 256, n / 4294967296 % 256, n / 16777216 % 256, n / 65536 % 256, n / 256 % 256, n % 256]) := hr2
         have hb2 := hs2'.kt gr _ _ (by decide) (by decide) (by decide) HR.out
         obtain ⟨ad2, hA2, _, _⟩ := hr2'.2 (by omega)
         subst hA2
         have HS2 := Lib.hid hs2'
         have HR2 := Lib.hid hb2
         have HRD2 := Lib.hid hr2'
         clear hs2 hs2' hr2 hr2' hb2))
    | (go_at_call 43
       go_must (
         (refine (getMuint64_at w2 w2.heap.size _ ad2 207 n HRD2.out (by omega) (by omega)).mono ?_)
         rintro e w3 ⟨rfl, m3, rfl⟩)))
  go_ret2
  exact ⟨rfl, gs, gd, sz, ch, xs, HR2.out.drewN m3, hB, HS2.out.drewN m3⟩

set_option maxHeartbeats 4000000 in
set_option maxRecDepth 100000 in
theorem ReadUint64_i1 (W : World) (B gr : Nat) (n : Int) (tot : List Int) (h : RS W B gr (([208, n % 256] : List Int) ++ tot) W) (h0 : 0 ≤ n) (h1 : n ≤ 127) :
    Calls Tryd.prog 24 #[.pointer (some ⟨gr, 0, none⟩)] W (fun e W' => e = .returned (.tuple #[.int .u64 n, .nilIface]) ∧ RS W B gr tot W') := by
  obtain ⟨gs, gd, sz, ch, xs, hb, hB, hs⟩ := h
  have q := hb.cell 0
  simp only [List.getElem?_cons_zero] at q
  have HS := Lib.hid hs
  have HR := Lib.hid hb
  clear hs hb
  go_enter Tryd.func24, Tryd.ntmps24
  go_wp2_with (first
    | (go_at_call 29
       go_must (
         (refine (PeekByte_calls W _ B gs gd sz ch (208) _ HS.out).mono ?_)
         rintro e w1 ⟨rfl, hs1⟩
         have hb1 := hs1.kt gr _ _ (by decide) (by decide) (by decide) HR.out
         have q1 := hb1.cell 0
         simp only [List.getElem?_cons_zero] at q1
         have HS1 := Lib.hid hs1
         have HR1 := Lib.hid hb1
         clear hs1 hb1))
    | (go_at_call 30
       go_must (
         (refine (isfix_no _ _ (by omega) (by omega)).mono ?_)
         rintro e w' ⟨rfl, rfl⟩))
    | (go_at_call 35
       go_must (
         (refine (Next_calls W _ B gs gd sz 2 ch 2 rfl _ HS1.out (by simp) (by omega) (by omega)).mono ?_)
         rintro e w2 ⟨A2, c2, rfl, hc2, hx2, hr2, hs2⟩
         have hs2' : SR W B gs gd sz ch tot w2 := hs2
         have hr2' : Reads w2 w2.heap.size 1 A2 2 (bs [208, n % 256]) := hr2
         have hb2 := hs2'.kt gr _ _ (by decide) (by decide) (by decide) HR.out
         obtain ⟨ad2, hA2, _, _⟩ := hr2'.2 (by omega)
         subst hA2
         have HS2 := Lib.hid hs2'
         have HR2 := Lib.hid hb2
         have HRD2 := Lib.hid hr2'
         clear hs2 hs2' hr2 hr2' hb2))
    | (go_at_call 36
       go_must (
         (refine (getMint8_at w2 w2.heap.size _ ad2 208 n HRD2.out (by omega) (by omega)).mono ?_)
         rintro e w3 ⟨rfl, m3, rfl⟩)))
  go_ret2
  exact ⟨rfl, gs, gd, sz, ch, xs, HR2.out.drewN m3, hB, HS2.out.drewN m3⟩

set_option maxHeartbeats 4000000 in
set_option maxRecDepth 100000 in
theorem ReadUint64_i2 (W : World) (B gr : Nat) (n : Int) (tot : List Int) (h : RS W B gr (([209, n / 256 % 256, n % 256] : List Int) ++ tot) W) (h0 : 0 ≤ n) (h1 : n ≤ 32767) :
    Calls Tryd.prog 24 #[.pointer (some ⟨gr, 0, none⟩)] W (fun e W' => e = .returned (.tuple #[.int .u64 n, .nilIface]) ∧ RS W B gr tot W') := by
  obtain ⟨gs, gd, sz, ch, xs, hb, hB, hs⟩ := h
  have q := hb.cell 0
  simp only [List.getElem?_cons_zero] at q
  have HS := Lib.hid hs
  have HR := Lib.hid hb
  clear hs hb
  go_enter Tryd.func24, Tryd.ntmps24
  go_wp2_with (first
    | (go_at_call 29
       go_must (
         (refine (PeekByte_calls W _ B gs gd sz ch (209) _ HS.out).mono ?_)
         rintro e w1 ⟨rfl, hs1⟩
         have hb1 := hs1.kt gr _ _ (by decide) (by decide) (by decide) HR.out
         have q1 := hb1.cell 0
         simp only [List.getElem?_cons_zero] at q1
         have HS1 := Lib.hid hs1
         have HR1 := Lib.hid hb1
         clear hs1 hb1))
    | (go_at_call 30
       go_must (
         (refine (isfix_no _ _ (by omega) (by omega)).mono ?_)
         rintro e w' ⟨rfl, rfl⟩))
    | (go_at_call 35
       go_must (
         (refine (Next_calls W _ B gs gd sz 3 ch 3 rfl _ HS1.out (by simp) (by omega) (by omega)).mono ?_)
         rintro e w2 ⟨A2, c2, rfl, hc2, hx2, hr2, hs2⟩
         have hs2' : SR W B gs gd sz ch tot w2 := hs2
         have hr2' : Reads w2 w2.heap.size 1 A2 3 (bs [209, n / 256 % 256, n % 256]) := hr2
         have hb2 := hs2'.kt gr _ _ (by decide) (by decide) (by decide) HR.out
         obtain ⟨ad2, hA2, _, _⟩ := hr2'.2 (by omega)
         subst hA2
         have HS2 := Lib.hid hs2'
         have HR2 := Lib.hid hb2
         have HRD2 := Lib.hid hr2'
         clear hs2 hs2' hr2 hr2' hb2))
    | (go_at_call 38
       go_must (
         (refine (getMint16_at w2 w2.heap.size _ ad2 209 n HRD2.out (by omega) (by omega)).mono ?_)
         rintro e w3 ⟨rfl, m3, rfl⟩)))
  go_ret2
  exact ⟨rfl, gs, gd, sz, ch, xs, HR2.out.drewN m3, hB, HS2.out.drewN m3⟩

set_option maxHeartbeats 4000000 in
set_option maxRecDepth 100000 in
theorem ReadUint64_i4 (W : World) (B gr : Nat) (n : Int) (tot : List Int) (h : RS W B gr (([210, n / 16777216 % 256, n / 65536 % 256, n / 256 % 256, n % 256] : List Int) ++ tot) W) (h0 : 0 ≤ n) (h1 : n ≤ 2147483647) :
    Calls Tryd.prog 24 #[.pointer (some ⟨gr, 0, none⟩)] W (fun e W' => e = .returned (.tuple #[.int .u64 n, .nilIface]) ∧ RS W B gr tot W') := by
  obtain ⟨gs, gd, sz, ch, xs, hb, hB, hs⟩ := h
  have q := hb.cell 0
  simp only [List.getElem?_cons_zero] at q
  have HS := Lib.hid hs
  have HR := Lib.hid hb
  clear hs hb
  go_enter Tryd.func24, Tryd.ntmps24
  go_wp2_with (first
    | (go_at_call 29
       go_must (
         (refine (PeekByte_calls W _ B gs gd sz ch (210) _ HS.out).mono ?_)
         rintro e w1 ⟨rfl, hs1⟩
         have hb1 := hs1.kt gr _ _ (by decide) (by decide) (by decide) HR.out
         have q1 := hb1.cell 0
         simp only [List.getElem?_cons_zero] at q1
         have HS1 := Lib.hid hs1
         have HR1 := Lib.hid hb1
         clear hs1 hb1))
    | (go_at_call 30
       go_must (
         (refine (isfix_no _ _ (by omega) (by omega)).mono ?_)
         rintro e w' ⟨rfl, rfl⟩))
    | (go_at_call 35
       go_must (
         (refine (Next_calls W _ B gs gd sz 5 ch 5 rfl _ HS1.out (by simp) (by omega) (by omega)).mono ?_)
         rintro e w2 ⟨A2, c2, rfl, hc2, hx2, hr2, hs2⟩
         have hs2' : SR W B gs gd sz ch tot w2 := hs2
         have hr2' : Reads w2 w2.heap.size 1 A2 5 (bs [210, n / 16777216 % 256, n / 65536 % 256, n / 256 % 256, n % 256]) := hr2
         have hb2 := hs2'.kt gr _ _ (by decide) (by decide) (by decide) HR.out
         obtain ⟨ad2, hA2, _, _⟩ := hr2'.2 (by omega)
         subst hA2
         have HS2 := Lib.hid hs2'
         have HR2 := Lib.hid hb2
         have HRD2 := Lib.hid hr2'
         clear hs2 hs2' hr2 hr2' hb2))
    | (go_at_call 40
       go_must (
         (refine (getMint32_at w2 w2.heap.size _ ad2 210 n HRD2.out (by omega) (by omega)).mono ?_)
         rintro e w3 ⟨rfl, m3, rfl⟩)))
  go_ret2
  exact ⟨rfl, gs, gd, sz, ch, xs, HR2.out.drewN m3, hB, HS2.out.drewN m3⟩

set_option maxHeartbeats 4000000 in
set_option maxRecDepth 100000 in
theorem ReadUint64_i8 (W : World) (B gr : Nat) (n : Int) (tot : List Int) (h : RS W B gr (([211, n / 72057594037927936 % 256, n / 281474976710656 % 256, n / 1099511627776 % 256, n / 4294967296 % 256, n / 16777216 % 256, n / 65536 % 256, n / 256 % 256, n % 256] : List Int) ++ tot) W) (h0 : 0 ≤ n) (h1 : n ≤ 9223372036854775807) :
    Calls Tryd.prog 24 #[.pointer (some ⟨gr, 0, none⟩)] W (fun e W' => e = .returned (.tuple #[.int .u64 n, .nilIface]) ∧ RS W B gr tot W') := by
  obtain ⟨gs, gd, sz, ch, xs, hb, hB, hs⟩ := h
  have q := hb.cell 0
  simp only [List.getElem?_cons_zero] at q
  have HS := Lib.hid hs
  have HR := Lib.hid hb
  clear hs hb
  go_enter Tryd.func24, Tryd.ntmps24
  go_wp2_with (first
    | (go_at_call 29
       go_must (
         (refine (PeekByte_calls W _ B gs gd sz ch (211) _ HS.out).mono ?_)
         rintro e w1 ⟨rfl, hs1⟩
         have hb1 := hs1.kt gr _ _ (by decide) (by decide) (by decide) HR.out
         have q1 := hb1.cell 0
         simp only [List.getElem?_cons_zero] at q1
         have HS1 := Lib.hid hs1
         have HR1 := Lib.hid hb1
         clear hs1 hb1))
    | (go_at_call 30
       go_must (
         (refine (isfix_no _ _ (by omega) (by omega)).mono ?_)
         rintro e w' ⟨rfl, rfl⟩))
    | (go_at_call 35
       go_must (
         (refine (Next_calls W _ B gs gd sz 9 ch 9 rfl _ HS1.out (by simp) (by omega) (by omega)).mono ?_)
         rintro e w2 ⟨A2, c2, rfl, hc2, hx2, hr2, hs2⟩
         have hs2' : SR W B gs gd sz ch tot w2 := hs2
         have hr2' : Reads w2 w2.heap.size 1 A2 9 (bs [211, n / 72057594037927936 % 256, n / 281474976710656 % 256, n / 1099511627776 % 256, n / 4294967296 % 256, n / 16777216 % 256, n / 65536 % 256, n / 256 % 256, n % 256]) := hr2
         have hb2 := hs2'.kt gr _ _ (by decide) (by decide) (by decide) HR.out
         obtain ⟨ad2, hA2, _, _⟩ := hr2'.2 (by omega)
         subst hA2
         have HS2 := Lib.hid hs2'
         have HR2 := Lib.hid hb2
         have HRD2 := Lib.hid hr2'
         clear hs2 hs2' hr2 hr2' hb2))
    | (go_at_call 42
       go_must (
         (refine (getMint64_at w2 w2.heap.size _ ad2 211 n HRD2.out (by omega) (by omega)).mono ?_)
         rintro e w3 ⟨rfl, m3, rfl⟩)))
  go_ret2
  exact ⟨rfl, gs, gd, sz, ch, xs, HR2.out.drewN m3, hB, HS2.out.drewN m3⟩

theorem ReadUint64_calls (w0 W : World) (B gr : Nat) (n : Int) (enc : List Int) (hf : IntF n enc) (h0 : 0 ≤ n) (h1 : n ≤ 18446744073709551615) (tot : List Int) (h : RS w0 B gr (enc ++ tot) W) :
    Calls Tryd.prog 24 #[.pointer (some ⟨gr, 0, none⟩)] W (fun e W' => e = .returned (.tuple #[.int .u64 n, .nilIface]) ∧ RS w0 B gr tot W') := by
  suffices hs : RS W B gr (enc ++ tot) W → Calls Tryd.prog 24 #[.pointer (some ⟨gr, 0, none⟩)] W (fun e W' => e = .returned (.tuple #[.int .u64 n, .nilIface]) ∧ RS W B gr tot W') from
    (hs h.self).mono fun _ _ ⟨he, hr⟩ => ⟨he, hr.base h.bel h.kt⟩
  clear h
  intro h
  have e1 : (2 : Int) ^ (8 * 1) = 256 := by decide
  have e2 : (2 : Int) ^ (8 * 2) = 65536 := by decide
  have e4 : (2 : Int) ^ (8 * 4) = 4294967296 := by decide
  rcases hf with ⟨a, b, rfl⟩ | ⟨a, b, rfl⟩ | ⟨p, hp, hok, a, rfl⟩ | ⟨p, hp, a, b, rfl⟩
  · exact ReadUint64_fix W B gr n tot h a b
  · omega
  · simp only [List.mem_cons, List.not_mem_nil, or_false] at hp
    rcases hp with rfl | rfl | rfl | rfl
    · simp only [okF, e1, Bool.or_eq_true, decide_eq_true_eq] at hok
      simp only [be1] at h
      exact ReadUint64_u1 W B gr n tot h a (by omega)
    · simp only [okF, e2, Bool.or_eq_true, decide_eq_true_eq] at hok
      simp only [be2J] at h
      exact ReadUint64_u2 W B gr n tot h a (by omega)
    · simp only [okF, e4, Bool.or_eq_true, decide_eq_true_eq] at hok
      simp only [be4J] at h
      exact ReadUint64_u4 W B gr n tot h a (by omega)
    · simp only [be8J] at h
      exact ReadUint64_u8 W B gr n tot h a (by omega)
  · simp only [List.mem_cons, List.not_mem_nil, or_false] at hp
    rcases hp with rfl | rfl | rfl | rfl
    · simp only [Nat.reduceMul, Nat.reduceSub, Int.reducePow] at a b
      simp only [be1] at h
      exact ReadUint64_i1 W B gr n tot h (by omega) (by omega)
    · simp only [Nat.reduceMul, Nat.reduceSub, Int.reducePow] at a b
      simp only [be2J] at h
      exact ReadUint64_i2 W B gr n tot h (by omega) (by omega)
    · simp only [Nat.reduceMul, Nat.reduceSub, Int.reducePow] at a b
      simp only [be4J] at h
      exact ReadUint64_i4 W B gr n tot h (by omega) (by omega)
    · simp only [Nat.reduceMul, Nat.reduceSub, Int.reducePow] at a b
      simp only [be8J] at h
      exact ReadUint64_i8 W B gr n tot h (by omega) (by omega)

def FrmReadUint16 (n : Int) (e : List Int) : Prop := IntF n e ∧ 0 ≤ n ∧ n ≤ 65535
set_option maxHeartbeats 2000000 in
set_option maxRecDepth 100000 in
theorem ReadUint16_calls (w0 W : World) (B gr : Nat) (n : Int) (enc : List Int) (hf : FrmReadUint16 n enc) (tot : List Int) (h : RS w0 B gr (enc ++ tot) W) :
    Calls Tryd.prog 17 #[.pointer (some ⟨gr, 0, none⟩)] W (fun e W' => e = .returned (.tuple #[.int .u16 n, .nilIface]) ∧ RS w0 B gr tot W') := by
  obtain ⟨hi, h0, h1⟩ := hf
  have H := Lib.hid h
  have HI := Lib.hid hi
  clear h hi
  go_enter Tryd.func17, Tryd.ntmps17
  go_wp2_with (
    (go_at_call 24)
    go_must (
      (refine (ReadUint64_calls w0 _ B gr n enc HI.out (by omega) (by omega) tot H.out).mono ?_)
      rintro e w1 ⟨rfl, hr⟩
      have HR := Lib.hid hr
      clear hr))
  go_ret2
  exact ⟨rfl, HR.out⟩
end Go.Proofs.YtpfjmnaognlnkaaDoor
