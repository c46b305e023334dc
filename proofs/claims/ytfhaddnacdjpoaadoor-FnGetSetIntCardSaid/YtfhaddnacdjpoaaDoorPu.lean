/- ReadInt64Bytes at nothing, at a byte that begins no integer, above MaxInt64. PRINTED by wip/genpu.py. -/
import Derived.Test.YtfhaddnacdjpoaaDoorPs
import Derived.Test.YtfhaddnacdjpoaaDoorPt
namespace Go.Proofs.YtfhaddnacdjpoaaDoor
open Go.RowKit
set_option linter.unusedVariables false

set_option maxHeartbeats 4000000 in
set_option maxRecDepth 100000 in
theorem ReadInt64Bytes_other (W : World) (B c : Nat) (ad : Addr) (n : Int) (tot : List Int) (h : Reads W B 1 (some ad) (tot.length + 1) (bs ([n] ++ tot))) (hmc : tot.length + 1 ≤ c) (hcm : c ≤ maxLen) (hB : B ≤ W.heap.size) (h0 : 128 ≤ n) (h1 : n < 224) (h2 : n < 204 ∨ 211 < n) :
    Calls Tryd.prog 48 #[.slice (some ad) (tot.length + 1) c] W (RE .i64 W) := by
  obtain ⟨ad', hA, hlt, hc⟩ := h.2 (by omega)
  injection hA with hA
  subst hA
  have hlw : ad.block < W.heap.size := by omega
  have hm1 : tot.length + 1 ≤ 9223372036854775807 := by simp only [maxLen] at hcm; omega
  have hc1 : c ≤ 9223372036854775807 := by simp only [maxLen] at hcm; omega
  have q0 := hc 0 _ rfl
  rw [add_zeroQ] at q0
  have d208 : (n == 208) = false := by simp; omega
  have e208 : decide (n = 208) = false := decide_eq_false (by omega)
  have d204 : (n == 204) = false := by simp; omega
  have e204 : decide (n = 204) = false := decide_eq_false (by omega)
  have d209 : (n == 209) = false := by simp; omega
  have e209 : decide (n = 209) = false := decide_eq_false (by omega)
  have d205 : (n == 205) = false := by simp; omega
  have e205 : decide (n = 205) = false := decide_eq_false (by omega)
  have d210 : (n == 210) = false := by simp; omega
  have e210 : decide (n = 210) = false := decide_eq_false (by omega)
  have d206 : (n == 206) = false := by simp; omega
  have e206 : decide (n = 206) = false := decide_eq_false (by omega)
  have d211 : (n == 211) = false := by simp; omega
  have e211 : decide (n = 211) = false := decide_eq_false (by omega)
  have d207 : (n == 207) = false := by simp; omega
  have e207 : decide (n = 207) = false := decide_eq_false (by omega)
  have hnf : decide (224 ≤ n) = false := decide_eq_false (by omega)
  clear hc
  have HR := Lib.hid h
  clear h
  go_enter Tryd.func48, Tryd.ntmps48
  go_wp2_with (first
    | (go_at_call 51
       go_must (
         (refine (isfix_no _ _ (by omega) (by omega)).mono ?_)
         rintro e w' ⟨rfl, rfl⟩))
    | (go_at_call 54
       go_must (
         (refine (isnfix_calls _ _ (by omega) (by omega)).mono ?_)
         rintro e w' ⟨rfl, rfl⟩))
    | (go_at_call 47
       go_must (
         (refine (badPrefix_any _ _ _ (by omega) (by omega)).mono ?_)
         rintro e w2 ⟨⟨t, v, rfl⟩, hb2⟩
         have HB2 := Lib.hid hb2
         clear hb2)))
  all_goals (
    ((try simp only [Exit.inBlock, Exit.then]); refine bodyPost_ret (results_tmp3Q rfl _ _ _) rfl ?_)
    exact ⟨⟨_, _, rfl⟩, HB2.out⟩)

set_option maxHeartbeats 4000000 in
set_option maxRecDepth 100000 in
theorem ReadInt64Bytes_o8 (W : World) (B c : Nat) (ad : Addr) (n : Int) (tot : List Int) (h : Reads W B 1 (some ad) (tot.length + 9) (bs ([207, n / 72057594037927936 % 256, n / 281474976710656 % 256, n / 1099511627776 % 256, n / 4294967296 % 256, n / 16777216 % 256, n / 65536 % 256, n / 256 % 256, n % 256] ++ tot))) (hmc : tot.length + 9 ≤ c) (hcm : c ≤ maxLen) (hB : B ≤ W.heap.size) (h0 : 9223372036854775808 ≤ n) (h1 : n < 18446744073709551616) :
    Calls Tryd.prog 48 #[.slice (some ad) (tot.length + 9) c] W (RE .i64 W) := by
  obtain ⟨ad', hA, hlt, hc⟩ := h.2 (by omega)
  injection hA with hA
  subst hA
  have hlw : ad.block < W.heap.size := by omega
  have hm1 : tot.length + 9 ≤ 9223372036854775807 := by simp only [maxLen] at hcm; omega
  have hc1 : c ≤ 9223372036854775807 := by simp only [maxLen] at hcm; omega
  have q0 := hc 0 _ rfl
  rw [add_zeroQ] at q0
  have hld : ∀ w, (loadVar 100 ⟨1, 0, none⟩).run Tryd.prog w = .ok (.agg #[]) w := fun w => by kernel_rfl
  obtain ⟨u, hu⟩ : ∃ u, u = n := ⟨_, rfl⟩
  have HT : Hid (Reads W B 1 (some ⟨ad.block, ad.off + 1, none⟩) (tot.length + 8) (bs ([u / 72057594037927936 % 256, u / 281474976710656 % 256, u / 1099511627776 % 256, u / 4294967296 % 256, u / 16777216 % 256, u / 65536 % 256, u / 256 % 256, u % 256] ++ tot))) := by
    have ht := Reads.tailQ (e := [207]) (tot := [n / 72057594037927936 % 256, n / 281474976710656 % 256, n / 1099511627776 % 256, n / 4294967296 % 256, n / 16777216 % 256, n / 65536 % 256, n / 256 % 256, n % 256] ++ tot) h 1 rfl (by omega)
    rw [show n / 72057594037927936 % 256 = u / 72057594037927936 % 256 by omega] at ht
    rw [show n / 281474976710656 % 256 = u / 281474976710656 % 256 by omega] at ht
    rw [show n / 1099511627776 % 256 = u / 1099511627776 % 256 by omega] at ht
    rw [show n / 4294967296 % 256 = u / 4294967296 % 256 by omega] at ht
    rw [show n / 16777216 % 256 = u / 16777216 % 256 by omega] at ht
    rw [show n / 65536 % 256 = u / 65536 % 256 by omega] at ht
    rw [show n / 256 % 256 = u / 256 % 256 by omega] at ht
    rw [show n % 256 = u % 256 by omega] at ht
    rw [show ([u / 72057594037927936 % 256, u / 281474976710656 % 256, u / 1099511627776 % 256, u / 4294967296 % 256, u / 16777216 % 256, u / 65536 % 256, u / 256 % 256, u % 256] ++ tot).length = tot.length + 8 by simp] at ht
    exact ht
  have hur : 0 ≤ u ∧ u < 18446744073709551616 := by omega
  have hgt : decide (9223372036854775807 < u) = true := decide_eq_true (by omega)
  obtain ⟨hur0, hur1⟩ := hur
  clear hu
  clear hc
  have HR := Lib.hid h
  clear h
  go_enter Tryd.func48, Tryd.ntmps48
  go_wp2_with (first
    | (go_at_call 51
       go_must (
         (refine (isfix_no _ _ (by omega) (by omega)).mono ?_)
         rintro e w' ⟨rfl, rfl⟩))
    | (go_at_call 54
       go_must (
         (refine (isnfix_calls _ _ (by omega) (by omega)).mono ?_)
         rintro e w' ⟨rfl, rfl⟩))
    | (go_at_call 53
       go_must (
         (refine (beQ64 _ B _ _ _ u tot HT.out (by omega) (by omega) (by omega) (by omega)).mono ?_)
         rintro e w2 ⟨rfl, n2, rfl⟩)))
  all_goals (
    ((try simp only [Exit.inBlock, Exit.then]); refine bodyPost_ret (results_tmp3Q rfl _ _ _) rfl ?_)
    exact ⟨⟨_, _, rfl⟩, below_drewN ((Below.refl _ _).alloc (Nat.le_refl _) _) _⟩)

set_option maxHeartbeats 4000000 in
set_option maxRecDepth 100000 in
theorem ReadInt64Bytes_none (W : World) (c : Nat) (A : Option Addr) (ts : TypeId) (vs : Value) (hsh : W.cell? ⟨0, 0, none⟩ = some (.iface ts vs)) :
    Calls Tryd.prog 48 #[.slice A 0 c] W (RE .i64 W) := by
  go_enter Tryd.func48, Tryd.ntmps48
  go_wp2
  go_quiet (fail)
  go_wp2
  ((try simp only [Exit.inBlock, Exit.then]); refine bodyPost_ret (results_tmp3Q rfl _ _ _) rfl ?_)
  exact ⟨⟨_, _, rfl⟩, below_drewN (Below.refl _ _) _⟩
end Go.Proofs.YtfhaddnacdjpoaaDoor
