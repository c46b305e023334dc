/- msgp's Writer: WriteUint64, WriteInt64 and their thin callers: what was written grows by the number's form. PRINTED by wip/geny.py. -/
import Derived.Test.YtohainhkplombaaKx
import Derived.Test.YtohainhkplombaaKd
namespace Go.Proofs.Ytohainhkplombaa
open Go.RowKit
set_option linter.unusedVariables false

theorem byt_mod (u : Int) (k j : Nat) (h : j < k) : byt (u % 256 ^ k) j = byt u j := by
  unfold byt
  obtain ⟨d, rfl⟩ : ∃ d, k = j + (d + 1) := ⟨k - j - 1, by omega⟩
  have hj : (0 : Int) < 256 ^ j := Int.pow_pos (by omega)
  rw [Int.pow_add]
  have e : u % (256 ^ j * 256 ^ (d + 1)) / 256 ^ j = u / 256 ^ j % 256 ^ (d + 1) := by
    have h1 := Int.emod_add_mul_ediv u (256 ^ j * 256 ^ (d + 1))
    have hd : (0 : Int) < 256 ^ (d + 1) := Int.pow_pos (by omega)
    have h2 := Int.emod_nonneg u (show (256 : Int) ^ j * 256 ^ (d + 1) ≠ 0 from Int.ne_of_gt (Int.mul_pos hj hd))
    have h3 := Int.emod_lt_of_pos u (Int.mul_pos hj hd)
    generalize u % (256 ^ j * 256 ^ (d + 1)) = R at *
    generalize u / (256 ^ j * 256 ^ (d + 1)) = Q at *
    have h4 : u = R + 256 ^ j * (256 ^ (d + 1) * Q) := by rw [← Int.mul_assoc]; exact h1.symm
    rw [h4, Int.add_mul_ediv_left _ _ (by omega), Int.add_mul_emod_self_left]
    refine (Int.emod_eq_of_lt (Int.ediv_nonneg h2 (by omega)) ?_).symm
    exact Int.ediv_lt_of_lt_mul hj (by rw [Int.mul_comm]; exact h3)
  rw [e, Int.pow_succ]
  exact Int.emod_emod_of_dvd _ ⟨256 ^ d, by rw [Int.mul_comm]⟩
theorem be_mod (u : Int) (k : Nat) : ∀ n, n ≤ k → be (u % 256 ^ k) n = be u n := by
  intro n
  induction n with
  | zero => intro _; rfl
  | succ n ih => intro h; rw [be, be, byt_mod u k n (by omega), ih (by omega)]

set_option maxHeartbeats 2000000 in
theorem WriteUint64_calls (w0 W : World) (B gw gb gt : Nat) (cs : List Value) (v : Value) (out pend : List Int) (u : Int) (h : WP w0 W B gw gb gt cs v out pend) (hn : out.length + pend.length ≤ 1099511627776) (h0 : 0 ≤ u) (hu : u ≤ 18446744073709551615) :
    Calls Try.prog 40 #[.pointer (some ⟨gw, 0, none⟩), .int .u64 u] W (WPost w0 B gw gb gt cs.length (out ++ pend ++ encU u)) := by
  have HW := Lib.hid h
  clear h
  by_cases u0 : u ≤ 127
  · have e : encU u = [u] := by unfold encU; rw [if_pos u0]
    rw [e]
    clear e
    go_enter Try.func40, Try.ntmps40
    go_wp2_with (first
      | (go_at_call 47; refine (wfixint_calls _ u (by omega) (by omega)).mono ?_; rintro e w' ⟨rfl, rfl⟩)
      | (go_at_call 36
         go_must (
           (refine (push_calls w0 W B gw gb gt cs v out pend (u) HW.out hn).mono ?_)
           rintro e W1 ⟨rfl, hr⟩
           have HR := Lib.hid hr
           clear hr)))
    go_ret
    exact ⟨rfl, HR.out⟩
  by_cases u1 : u ≤ 255
  · have e : encU u = 204 :: be u 1 := by unfold encU; rw [if_neg u0, if_pos u1]
    rw [e]
    clear e
    go_enter Try.func40, Try.ntmps40
    go_wp2_with (
      (go_at_call 48)
      go_must (
        (refine (prefix8_calls w0 W B gw gb gt cs v out pend 204 (u) HW.out hn (by omega) (by omega)).mono ?_)
        rintro e W1 ⟨rfl, hr⟩
        have HR := Lib.hid hr
        clear hr))
    go_ret
    exact ⟨rfl, HR.out⟩
  by_cases u2 : u ≤ 65535
  · have e : encU u = 205 :: be u 2 := by unfold encU; rw [if_neg u0, if_neg u1, if_pos u2]
    rw [e]
    clear e
    go_enter Try.func40, Try.ntmps40
    go_wp2_with (
      (go_at_call 38)
      go_must (
        (refine (prefix16_calls w0 W B gw gb gt cs v out pend 205 (u) HW.out hn (by omega) (by omega)).mono ?_)
        rintro e W1 ⟨rfl, hr⟩
        have HR := Lib.hid hr
        clear hr))
    go_ret
    exact ⟨rfl, HR.out⟩
  by_cases u3 : u ≤ 4294967295
  · have e : encU u = 206 :: be u 4 := by unfold encU; rw [if_neg u0, if_neg u1, if_neg u2, if_pos u3]
    rw [e]
    clear e
    go_enter Try.func40, Try.ntmps40
    go_wp2_with (
      (go_at_call 31)
      go_must (
        (refine (prefix32_calls w0 W B gw gb gt cs v out pend 206 (u) HW.out hn (by omega) (by omega)).mono ?_)
        rintro e W1 ⟨rfl, hr⟩
        have HR := Lib.hid hr
        clear hr))
    go_ret
    exact ⟨rfl, HR.out⟩
  have e : encU u = 207 :: be u 8 := by unfold encU; rw [if_neg u0, if_neg u1, if_neg u2, if_neg u3]
  rw [e]
  clear e
  go_enter Try.func40, Try.ntmps40
  go_wp2_with (
    (go_at_call 49)
    go_must (
      (refine (prefix64_calls w0 W B gw gb gt cs v out pend 207 (u) HW.out hn (by omega) (by omega)).mono ?_)
      rintro e W1 ⟨rfl, hr⟩
      have HR := Lib.hid hr
      clear hr))
  go_ret
  exact ⟨rfl, HR.out⟩

set_option maxHeartbeats 2000000 in
theorem WriteInt64_calls (w0 W : World) (B gw gb gt : Nat) (cs : List Value) (v : Value) (out pend : List Int) (u : Int) (h : WP w0 W B gw gb gt cs v out pend) (hn : out.length + pend.length ≤ 1099511627776) (h0 : -9223372036854775808 ≤ u) (hu : u ≤ 9223372036854775807) :
    Calls Try.prog 41 #[.pointer (some ⟨gw, 0, none⟩), .int .i64 u] W (WPost w0 B gw gb gt cs.length (out ++ pend ++ encI u)) := by
  have HW := Lib.hid h
  clear h
  by_cases u0 : u < -2147483648
  · have e : encI u = 211 :: be u 8 := by unfold encI; rw [if_pos u0]
    rw [e]
    clear e
    have hbe : be (u % 18446744073709551616) 8 = be u 8 := by have := be_mod u 8 8 (Nat.le_refl _); simpa only [Int.reducePow] using this
    rw [← hbe]
    clear hbe
    go_enter Try.func41, Try.ntmps41
    go_wp2_with (
      (go_at_call 49)
      go_must (
        (refine (prefix64_calls w0 W B gw gb gt cs v out pend 211 (u % 18446744073709551616) HW.out hn (by omega) (by omega)).mono ?_)
        rintro e W1 ⟨rfl, hr⟩
        have HR := Lib.hid hr
        clear hr))
    go_ret
    exact ⟨rfl, HR.out⟩
  by_cases u1 : u < -32768
  · have e : encI u = 210 :: be u 4 := by unfold encI; rw [if_neg u0, if_pos u1]
    rw [e]
    clear e
    have hbe : be (u % 4294967296) 4 = be u 4 := by have := be_mod u 4 4 (Nat.le_refl _); simpa only [Int.reducePow] using this
    rw [← hbe]
    clear hbe
    go_enter Try.func41, Try.ntmps41
    go_wp2_with (
      (go_at_call 31)
      go_must (
        (refine (prefix32_calls w0 W B gw gb gt cs v out pend 210 (u % 4294967296) HW.out hn (by omega) (by omega)).mono ?_)
        rintro e W1 ⟨rfl, hr⟩
        have HR := Lib.hid hr
        clear hr))
    go_ret
    exact ⟨rfl, HR.out⟩
  by_cases u2 : u < -128
  · have e : encI u = 209 :: be u 2 := by unfold encI; rw [if_neg u0, if_neg u1, if_pos u2]
    rw [e]
    clear e
    have hbe : be (u % 65536) 2 = be u 2 := by have := be_mod u 2 2 (Nat.le_refl _); simpa only [Int.reducePow] using this
    rw [← hbe]
    clear hbe
    go_enter Try.func41, Try.ntmps41
    go_wp2_with (
      (go_at_call 38)
      go_must (
        (refine (prefix16_calls w0 W B gw gb gt cs v out pend 209 (u % 65536) HW.out hn (by omega) (by omega)).mono ?_)
        rintro e W1 ⟨rfl, hr⟩
        have HR := Lib.hid hr
        clear hr))
    go_ret
    exact ⟨rfl, HR.out⟩
  by_cases u3 : u < -32
  · have e : encI u = 208 :: be u 1 := by unfold encI; rw [if_neg u0, if_neg u1, if_neg u2, if_pos u3]
    rw [e]
    clear e
    have hbe : be (u % 256) 1 = be u 1 := by have := be_mod u 1 1 (Nat.le_refl _); simpa only [Int.reducePow] using this
    rw [← hbe]
    clear hbe
    go_enter Try.func41, Try.ntmps41
    go_wp2_with (
      (go_at_call 48)
      go_must (
        (refine (prefix8_calls w0 W B gw gb gt cs v out pend 208 (u % 256) HW.out hn (by omega) (by omega)).mono ?_)
        rintro e W1 ⟨rfl, hr⟩
        have HR := Lib.hid hr
        clear hr))
    go_ret
    exact ⟨rfl, HR.out⟩
  by_cases u4 : u < 0
  · have e : encI u = [u + 256] := by unfold encI; rw [if_neg u0, if_neg u1, if_neg u2, if_neg u3, if_pos u4]
    rw [e]
    clear e
    go_enter Try.func41, Try.ntmps41
    go_wp2_with (first
      | (go_at_call 50; refine (wnfixint_calls _ u (by omega) (by omega)).mono ?_; rintro e w' ⟨rfl, rfl⟩)
      | (go_at_call 36
         go_must (
           (refine (push_calls w0 W B gw gb gt cs v out pend (u + 256) HW.out hn).mono ?_)
           rintro e W1 ⟨rfl, hr⟩
           have HR := Lib.hid hr
           clear hr)))
    go_ret
    exact ⟨rfl, HR.out⟩
  by_cases u5 : u ≤ 127
  · have e : encI u = [u] := by unfold encI; rw [if_neg u0, if_neg u1, if_neg u2, if_neg u3, if_neg u4, if_pos u5]
    rw [e]
    clear e
    go_enter Try.func41, Try.ntmps41
    go_wp2_with (first
      | (go_at_call 47; refine (wfixint_calls _ u (by omega) (by omega)).mono ?_; rintro e w' ⟨rfl, rfl⟩)
      | (go_at_call 36
         go_must (
           (refine (push_calls w0 W B gw gb gt cs v out pend (u) HW.out hn).mono ?_)
           rintro e W1 ⟨rfl, hr⟩
           have HR := Lib.hid hr
           clear hr)))
    go_ret
    exact ⟨rfl, HR.out⟩
  by_cases u6 : u ≤ 32767
  · have e : encI u = 209 :: be u 2 := by unfold encI; rw [if_neg u0, if_neg u1, if_neg u2, if_neg u3, if_neg u4, if_neg u5, if_pos u6]
    rw [e]
    clear e
    go_enter Try.func41, Try.ntmps41
    go_wp2_with (
      (go_at_call 38)
      go_must (
        (refine (prefix16_calls w0 W B gw gb gt cs v out pend 209 (u) HW.out hn (by omega) (by omega)).mono ?_)
        rintro e W1 ⟨rfl, hr⟩
        have HR := Lib.hid hr
        clear hr))
    go_ret
    exact ⟨rfl, HR.out⟩
  by_cases u7 : u ≤ 2147483647
  · have e : encI u = 210 :: be u 4 := by unfold encI; rw [if_neg u0, if_neg u1, if_neg u2, if_neg u3, if_neg u4, if_neg u5, if_neg u6, if_pos u7]
    rw [e]
    clear e
    go_enter Try.func41, Try.ntmps41
    go_wp2_with (
      (go_at_call 31)
      go_must (
        (refine (prefix32_calls w0 W B gw gb gt cs v out pend 210 (u) HW.out hn (by omega) (by omega)).mono ?_)
        rintro e W1 ⟨rfl, hr⟩
        have HR := Lib.hid hr
        clear hr))
    go_ret
    exact ⟨rfl, HR.out⟩
  have e : encI u = 211 :: be u 8 := by unfold encI; rw [if_neg u0, if_neg u1, if_neg u2, if_neg u3, if_neg u4, if_neg u5, if_neg u6, if_neg u7]
  rw [e]
  clear e
  go_enter Try.func41, Try.ntmps41
  go_wp2_with (
    (go_at_call 49)
    go_must (
      (refine (prefix64_calls w0 W B gw gb gt cs v out pend 211 (u) HW.out hn (by omega) (by omega)).mono ?_)
      rintro e W1 ⟨rfl, hr⟩
      have HR := Lib.hid hr
      clear hr))
  go_ret
  exact ⟨rfl, HR.out⟩

theorem WriteUint_calls (w0 W : World) (B gw gb gt : Nat) (cs : List Value) (v : Value) (out pend : List Int) (u : Int) (h : WP w0 W B gw gb gt cs v out pend) (hn : out.length + pend.length ≤ 1099511627776) (h0 : 0 ≤ u) (hu : u ≤ 18446744073709551615) :
    Calls Try.prog 25 #[.pointer (some ⟨gw, 0, none⟩), .int .u64 u] W (WPost w0 B gw gb gt cs.length (out ++ pend ++ encU u)) := by
  have HW := Lib.hid h
  clear h
  go_enter Try.func25, Try.ntmps25
  go_wp2_with (
    (go_at_call 40)
    go_must (
      (refine (WriteUint64_calls w0 W B gw gb gt cs v out pend u HW.out hn h0 hu).mono ?_)
      rintro e W1 ⟨rfl, hr⟩
      have HR := Lib.hid hr
      clear hr))
  go_ret
  exact ⟨rfl, HR.out⟩

theorem WriteInt_calls (w0 W : World) (B gw gb gt : Nat) (cs : List Value) (v : Value) (out pend : List Int) (u : Int) (h : WP w0 W B gw gb gt cs v out pend) (hn : out.length + pend.length ≤ 1099511627776) (h0 : -9223372036854775808 ≤ u) (hu : u ≤ 9223372036854775807) :
    Calls Try.prog 28 #[.pointer (some ⟨gw, 0, none⟩), .int .i64 u] W (WPost w0 B gw gb gt cs.length (out ++ pend ++ encI u)) := by
  have HW := Lib.hid h
  clear h
  go_enter Try.func28, Try.ntmps28
  go_wp2_with (
    (go_at_call 41)
    go_must (
      (refine (WriteInt64_calls w0 W B gw gb gt cs v out pend u HW.out hn h0 hu).mono ?_)
      rintro e W1 ⟨rfl, hr⟩
      have HR := Lib.hid hr
      clear hr))
  go_ret
  exact ⟨rfl, HR.out⟩

end Go.Proofs.Ytohainhkplombaa
