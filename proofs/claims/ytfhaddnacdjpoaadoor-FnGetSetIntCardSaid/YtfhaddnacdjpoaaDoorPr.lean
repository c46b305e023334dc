/- BigEndian at bytes that read; ReadInt64Bytes. PRINTED by wip/genpr.py. -/
import Derived.Test.YtfhaddnacdjpoaaDoorRj
namespace Go.Proofs.YtfhaddnacdjpoaaDoor
open Go.RowKit
set_option linter.unusedVariables false

theorem add_zeroQ (a : Addr) : a.add 0 = a := by simp [Addr.add]
theorem nat_joinQ (i a b : Nat) (hb : b % 2 ^ i = 0) (ha : a < 2 ^ i) : a ||| b = a + b := by
  obtain ⟨k, rfl⟩ : ∃ k, b = 2 ^ i * k := ⟨b / 2 ^ i, by have := Nat.div_add_mod b (2 ^ i); rw [hb] at this; omega⟩
  rw [Nat.or_comm, ← Nat.two_pow_add_eq_or_of_lt ha]
  omega
theorem joinQ16 (i : Nat) (u x : Int) (hu : 0 ≤ u) (hu1 : u.toNat < 2 ^ i) (hx : 0 ≤ x) (hx1 : x < 65536) (hu2 : u < 65536) (hxm : x.toNat % 2 ^ i = 0) : bits .or .u16 u x = u + x := by
  rw [u16_or _ _ hu hu2 hx hx1, nat_joinQ i _ _ hxm hu1]
  omega
theorem joinQ32 (i : Nat) (u x : Int) (hu : 0 ≤ u) (hu1 : u.toNat < 2 ^ i) (hx : 0 ≤ x) (hx1 : x < 4294967296) (hu2 : u < 4294967296) (hxm : x.toNat % 2 ^ i = 0) : bits .or .u32 u x = u + x := by
  rw [u32_or _ _ hu hu2 hx hx1, nat_joinQ i _ _ hxm hu1]
  omega
theorem joinQ64 (i : Nat) (u x : Int) (hu : 0 ≤ u) (hu1 : u.toNat < 2 ^ i) (hx : 0 ≤ x) (hx1 : x < 18446744073709551616) (hu2 : u < 18446744073709551616) (hxm : x.toNat % 2 ^ i = 0) : bits .or .u64 u x = u + x := by
  rw [u64_or _ _ hu hu2 hx hx1, nat_joinQ i _ _ hxm hu1]
  omega

set_option maxHeartbeats 2000000 in
set_option maxRecDepth 100000 in
theorem beQ16 (w : World) (B c m : Nat) (ad : Addr) (u : Int) (tot : List Int) (h : Reads w B 1 (some ad) m (bs ([u / 256 % 256, u % 256] ++ tot))) (h0 : 0 ≤ u) (h1 : u < 65536) (hm : 2 ≤ m) (hm1 : m ≤ 9223372036854775807) :
    Calls Tryd.prog 45 #[.agg #[], .slice (some ad) m c] w fun r w' => r = .returned (.int .u16 u) ∧ ∃ n, w' = (w.alloc (.cells #[] 100)).drewN n := by
  obtain ⟨ad', hA, hlt, hc⟩ := h.2 (by omega)
  injection hA with hA
  subst hA
  have hlw : ad.block < w.heap.size := World.block_lt_of_cell? w _ (by have := hc 0 _ rfl; rw [add_zeroQ] at this; exact this)
  have q0 := hc 0 _ rfl
  rw [add_zeroQ] at q0
  have q1 : w.cell? ⟨ad.block, ad.off + 1, none⟩ = some _ := hc 1 _ rfl
  have z1 : bits .or .u16 (u % 256) (u / 256 % 256 * 256) = u := by rw [joinQ16 8 _ _ (by omega) (by omega) (by omega) (by omega) (by omega) (by omega)]; omega
  clear hc h hlt
  go_enter Tryd.func45, Tryd.ntmps45
  go_wp2
  go_quiet (fail)
  go_wp2
  go_ret
  exact ⟨rfl, _, rfl⟩

set_option maxHeartbeats 2000000 in
set_option maxRecDepth 100000 in
theorem beQ32 (w : World) (B c m : Nat) (ad : Addr) (u : Int) (tot : List Int) (h : Reads w B 1 (some ad) m (bs ([u / 16777216 % 256, u / 65536 % 256, u / 256 % 256, u % 256] ++ tot))) (h0 : 0 ≤ u) (h1 : u < 4294967296) (hm : 4 ≤ m) (hm1 : m ≤ 9223372036854775807) :
    Calls Tryd.prog 46 #[.agg #[], .slice (some ad) m c] w fun r w' => r = .returned (.int .u32 u) ∧ ∃ n, w' = (w.alloc (.cells #[] 100)).drewN n := by
  obtain ⟨ad', hA, hlt, hc⟩ := h.2 (by omega)
  injection hA with hA
  subst hA
  have hlw : ad.block < w.heap.size := World.block_lt_of_cell? w _ (by have := hc 0 _ rfl; rw [add_zeroQ] at this; exact this)
  have q0 := hc 0 _ rfl
  rw [add_zeroQ] at q0
  have q1 : w.cell? ⟨ad.block, ad.off + 1, none⟩ = some _ := hc 1 _ rfl
  have q2 : w.cell? ⟨ad.block, ad.off + 2, none⟩ = some _ := hc 2 _ rfl
  have q3 : w.cell? ⟨ad.block, ad.off + 3, none⟩ = some _ := hc 3 _ rfl
  have z1 : bits .or .u32 (u % 256) (u / 256 % 256 * 256) = u % 65536 := by rw [joinQ32 8 _ _ (by omega) (by omega) (by omega) (by omega) (by omega) (by omega)]; omega
  have z2 : bits .or .u32 (u % 65536) (u / 65536 % 256 * 65536) = u % 16777216 := by rw [joinQ32 16 _ _ (by omega) (by omega) (by omega) (by omega) (by omega) (by omega)]; omega
  have z3 : bits .or .u32 (u % 16777216) (u / 16777216 % 256 * 16777216) = u := by rw [joinQ32 24 _ _ (by omega) (by omega) (by omega) (by omega) (by omega) (by omega)]; omega
  clear hc h hlt
  go_enter Tryd.func46, Tryd.ntmps46
  go_wp2
  go_quiet (fail)
  go_wp2
  go_ret
  exact ⟨rfl, _, rfl⟩

set_option maxHeartbeats 2000000 in
set_option maxRecDepth 100000 in
theorem beQ64 (w : World) (B c m : Nat) (ad : Addr) (u : Int) (tot : List Int) (h : Reads w B 1 (some ad) m (bs ([u / 72057594037927936 % 256, u / 281474976710656 % 256, u / 1099511627776 % 256, u / 4294967296 % 256, u / 16777216 % 256, u / 65536 % 256, u / 256 % 256, u % 256] ++ tot))) (h0 : 0 ≤ u) (h1 : u < 18446744073709551616) (hm : 8 ≤ m) (hm1 : m ≤ 9223372036854775807) :
    Calls Tryd.prog 53 #[.agg #[], .slice (some ad) m c] w fun r w' => r = .returned (.int .u64 u) ∧ ∃ n, w' = (w.alloc (.cells #[] 100)).drewN n := by
  obtain ⟨ad', hA, hlt, hc⟩ := h.2 (by omega)
  injection hA with hA
  subst hA
  have hlw : ad.block < w.heap.size := World.block_lt_of_cell? w _ (by have := hc 0 _ rfl; rw [add_zeroQ] at this; exact this)
  have q0 := hc 0 _ rfl
  rw [add_zeroQ] at q0
  have q1 : w.cell? ⟨ad.block, ad.off + 1, none⟩ = some _ := hc 1 _ rfl
  have q2 : w.cell? ⟨ad.block, ad.off + 2, none⟩ = some _ := hc 2 _ rfl
  have q3 : w.cell? ⟨ad.block, ad.off + 3, none⟩ = some _ := hc 3 _ rfl
  have q4 : w.cell? ⟨ad.block, ad.off + 4, none⟩ = some _ := hc 4 _ rfl
  have q5 : w.cell? ⟨ad.block, ad.off + 5, none⟩ = some _ := hc 5 _ rfl
  have q6 : w.cell? ⟨ad.block, ad.off + 6, none⟩ = some _ := hc 6 _ rfl
  have q7 : w.cell? ⟨ad.block, ad.off + 7, none⟩ = some _ := hc 7 _ rfl
  have z1 : bits .or .u64 (u % 256) (u / 256 % 256 * 256) = u % 65536 := by rw [joinQ64 8 _ _ (by omega) (by omega) (by omega) (by omega) (by omega) (by omega)]; omega
  have z2 : bits .or .u64 (u % 65536) (u / 65536 % 256 * 65536) = u % 16777216 := by rw [joinQ64 16 _ _ (by omega) (by omega) (by omega) (by omega) (by omega) (by omega)]; omega
  have z3 : bits .or .u64 (u % 16777216) (u / 16777216 % 256 * 16777216) = u % 4294967296 := by rw [joinQ64 24 _ _ (by omega) (by omega) (by omega) (by omega) (by omega) (by omega)]; omega
  have z4 : bits .or .u64 (u % 4294967296) (u / 4294967296 % 256 * 4294967296) = u % 1099511627776 := by rw [joinQ64 32 _ _ (by omega) (by omega) (by omega) (by omega) (by omega) (by omega)]; omega
  have z5 : bits .or .u64 (u % 1099511627776) (u / 1099511627776 % 256 * 1099511627776) = u % 281474976710656 := by rw [joinQ64 40 _ _ (by omega) (by omega) (by omega) (by omega) (by omega) (by omega)]; omega
  have z6 : bits .or .u64 (u % 281474976710656) (u / 281474976710656 % 256 * 281474976710656) = u % 72057594037927936 := by rw [joinQ64 48 _ _ (by omega) (by omega) (by omega) (by omega) (by omega) (by omega)]; omega
  have z7 : bits .or .u64 (u % 72057594037927936) (u / 72057594037927936 % 256 * 72057594037927936) = u := by rw [joinQ64 56 _ _ (by omega) (by omega) (by omega) (by omega) (by omega) (by omega)]; omega
  clear hc h hlt
  go_enter Tryd.func53, Tryd.ntmps53
  go_wp2
  go_quiet (fail)
  go_wp2
  go_ret
  exact ⟨rfl, _, rfl⟩
end Go.Proofs.YtfhaddnacdjpoaaDoor
