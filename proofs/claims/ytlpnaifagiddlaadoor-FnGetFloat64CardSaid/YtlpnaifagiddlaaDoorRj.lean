/- msgp's numbers of bytes: getMint.., getMuint.., fixint. PRINTED by wip/genrj.py. -/
import Derived.Test.YtlpnaifagiddlaaDoorRk
import Derived.Laws.BitsAllLaws
namespace Go.Proofs.YtlpnaifagiddlaaDoor
open Go.RowKit
set_option linter.unusedVariables false

theorem add_zeroJ (a : Addr) : a.add 0 = a := by simp [Addr.add]
theorem nat_joinJ (i a b : Nat) (hb : b % 2 ^ i = 0) (ha : a < 2 ^ i) : a ||| b = a + b := by
  obtain ⟨k, rfl⟩ : ∃ k, b = 2 ^ i * k := ⟨b / 2 ^ i, by have := Nat.div_add_mod b (2 ^ i); rw [hb] at this; omega⟩
  rw [Nat.or_comm, ← Nat.two_pow_add_eq_or_of_lt ha]
  omega
theorem or_parts (W i : Nat) (a b : Int) (hi : i ≤ W) (hb0 : 0 ≤ b) (hb1 : b < 2 ^ i) (ha : a % 2 ^ i = 0) :
    (((BitVec.ofInt W a ||| BitVec.ofInt W b).toNat : Nat) : Int) = a % 2 ^ W + b % 2 ^ W := by
  rw [BitVec.toNat_or, BitVec.toNat_ofInt, BitVec.toNat_ofInt]
  have hW : (0 : Int) < 2 ^ W := Int.pow_pos (by omega)
  have hiW : ((2 : Int) ^ i) ≤ 2 ^ W := by
    have := Nat.pow_le_pow_right (n := 2) (by omega) hi
    exact_mod_cast this
  have hbm : b % 2 ^ W = b := Int.emod_eq_of_lt hb0 (by omega)
  have ham := Int.emod_nonneg a (show (2 : Int) ^ W ≠ 0 by omega)
  have hdvd : ((2 : Int) ^ i) ∣ 2 ^ W := by
    obtain ⟨d, rfl⟩ : ∃ d, W = i + d := ⟨W - i, by omega⟩
    exact ⟨2 ^ d, by rw [Int.pow_add]⟩
  have hai : (a % 2 ^ W) % 2 ^ i = 0 := by rw [Int.emod_emod_of_dvd a hdvd]; exact ha
  have e1 : ((2 ^ W : Nat) : Int) = (2 : Int) ^ W := by norm_cast
  rw [e1, hbm]
  have h3 : (a % 2 ^ W).toNat % 2 ^ i = 0 := by
    have h4 : (((a % 2 ^ W).toNat % 2 ^ i : Nat) : Int) = (a % 2 ^ W) % 2 ^ i := by
      rw [Int.natCast_emod, Int.toNat_of_nonneg ham]
      norm_cast
    omega
  have h5 : b.toNat < 2 ^ i := by
    have h2 : ((2 ^ i : Nat) : Int) = (2 : Int) ^ i := by norm_cast
    omega
  rw [Nat.or_comm, nat_joinJ i _ _ h3 h5]
  omega
theorem wrapJ_i16 (n : Int) : IntKind.i16.wrap n = (n + 32768) % 65536 - 32768 := by simp [IntKind.wrap, IntKind.bits, IntKind.signed]; omega
theorem or_i16 (i : Nat) (a b : Int) (hi : i ≤ 16) (hb0 : 0 ≤ b) (hb1 : b < 2 ^ i) (ha : a % 2 ^ i = 0) : bits .or .i16 a b = IntKind.i16.wrap (a + b) := by
  show IntKind.i16.wrap (((BitVec.ofInt 16 a ||| BitVec.ofInt 16 b).toNat : Nat) : Int) = _
  rw [or_parts 16 i a b hi hb0 hb1 ha, wrapJ_i16, wrapJ_i16]
  have e : (2 : Int) ^ 16 = 65536 := by decide
  rw [e]
  omega
theorem or_i32 (i : Nat) (a b : Int) (hi : i ≤ 32) (hb0 : 0 ≤ b) (hb1 : b < 2 ^ i) (ha : a % 2 ^ i = 0) : bits .or .i32 a b = IntKind.i32.wrap (a + b) := by
  show IntKind.i32.wrap (((BitVec.ofInt 32 a ||| BitVec.ofInt 32 b).toNat : Nat) : Int) = _
  rw [or_parts 32 i a b hi hb0 hb1 ha, IntKind.wrap_i32, IntKind.wrap_i32]
  have e : (2 : Int) ^ 32 = 4294967296 := by decide
  rw [e]
  omega
theorem or_i64 (i : Nat) (a b : Int) (hi : i ≤ 64) (hb0 : 0 ≤ b) (hb1 : b < 2 ^ i) (ha : a % 2 ^ i = 0) : bits .or .i64 a b = IntKind.i64.wrap (a + b) := by
  show IntKind.i64.wrap (((BitVec.ofInt 64 a ||| BitVec.ofInt 64 b).toNat : Nat) : Int) = _
  rw [or_parts 64 i a b hi hb0 hb1 ha, IntKind.wrap_i64, IntKind.wrap_i64]
  have e : (2 : Int) ^ 64 = 18446744073709551616 := by decide
  rw [e]
  omega
theorem or_u16 (i : Nat) (a b : Int) (hi : i ≤ 16) (hb0 : 0 ≤ b) (hb1 : b < 2 ^ i) (ha : a % 2 ^ i = 0) : bits .or .u16 a b = IntKind.u16.wrap (a + b) := by
  show IntKind.u16.wrap (((BitVec.ofInt 16 a ||| BitVec.ofInt 16 b).toNat : Nat) : Int) = _
  rw [or_parts 16 i a b hi hb0 hb1 ha, IntKind.wrap_u16, IntKind.wrap_u16]
  have e : (2 : Int) ^ 16 = 65536 := by decide
  rw [e]
  omega
theorem or_u32 (i : Nat) (a b : Int) (hi : i ≤ 32) (hb0 : 0 ≤ b) (hb1 : b < 2 ^ i) (ha : a % 2 ^ i = 0) : bits .or .u32 a b = IntKind.u32.wrap (a + b) := by
  show IntKind.u32.wrap (((BitVec.ofInt 32 a ||| BitVec.ofInt 32 b).toNat : Nat) : Int) = _
  rw [or_parts 32 i a b hi hb0 hb1 ha, IntKind.wrap_u32, IntKind.wrap_u32]
  have e : (2 : Int) ^ 32 = 4294967296 := by decide
  rw [e]
  omega
theorem or_u64 (i : Nat) (a b : Int) (hi : i ≤ 64) (hb0 : 0 ≤ b) (hb1 : b < 2 ^ i) (ha : a % 2 ^ i = 0) : bits .or .u64 a b = IntKind.u64.wrap (a + b) := by
  show IntKind.u64.wrap (((BitVec.ofInt 64 a ||| BitVec.ofInt 64 b).toNat : Nat) : Int) = _
  rw [or_parts 64 i a b hi hb0 hb1 ha, IntKind.wrap_u64, IntKind.wrap_u64]
  have e : (2 : Int) ^ 64 = 18446744073709551616 := by decide
  rw [e]
  omega






set_option maxHeartbeats 2000000 in
set_option maxRecDepth 100000 in
theorem getMuint32_at (w : World) (B c : Nat) (ad : Addr) (cd n : Int) (h : Reads w B 1 (some ad) 5 (bs [cd, n / 16777216 % 256, n / 65536 % 256, n / 256 % 256, n % 256])) (h0 : 0 ≤ n) (h1 : n ≤ 4294967295) :
    Calls Tryd.prog 61 #[.slice (some ad) 5 c] w fun e w' => e = .returned (.int .u32 n) ∧ ∃ m, w' = w.drewN m := by
  obtain ⟨ad', hA, hlt, hc⟩ := h.2 (by omega)
  injection hA with hA
  subst hA
  have q1 : w.cell? ⟨ad.block, ad.off + 1, none⟩ = some _ := hc 1 _ rfl
  have q2 : w.cell? ⟨ad.block, ad.off + 2, none⟩ = some _ := hc 2 _ rfl
  have q3 : w.cell? ⟨ad.block, ad.off + 3, none⟩ = some _ := hc 3 _ rfl
  have q4 : w.cell? ⟨ad.block, ad.off + 4, none⟩ = some _ := hc 4 _ rfl
  clear hc h hlt
  have y1 : n / 16777216 % 256 * 16777216 = n / 16777216 * 16777216 := by omega
  have z2 : bits .or .u32 (n / 16777216 % 256 * 16777216) (n / 65536 % 256 * 65536) = n / 65536 * 65536 := by rw [or_u32 24 _ _ (by omega) (by omega) (by omega) (by omega), IntKind.wrap_u32]; omega
  have z3 : bits .or .u32 (n / 65536 * 65536) (n / 256 % 256 * 256) = n / 256 * 256 := by rw [or_u32 16 _ _ (by omega) (by omega) (by omega) (by omega), IntKind.wrap_u32]; omega
  have z4 : bits .or .u32 (n / 256 * 256) (n % 256) = n := by rw [or_u32 8 _ _ (by omega) (by omega) (by omega) (by omega), IntKind.wrap_u32]; omega
  clear y1
  go_enter Tryd.func61, Tryd.ntmps61
  go_wp2
  go_quiet (fail)
  go_wp2
  go_ret
  exact ⟨rfl, _, rfl⟩


set_option maxHeartbeats 2000000 in
set_option maxRecDepth 100000 in
theorem getMuint64_at (w : World) (B c : Nat) (ad : Addr) (cd n : Int) (h : Reads w B 1 (some ad) 9 (bs [cd, n / 72057594037927936 % 256, n / 281474976710656 % 256, n / 1099511627776 % 256, n / 4294967296 % 256, n / 16777216 % 256, n / 65536 % 256, n / 256 % 256, n % 256])) (h0 : 0 ≤ n) (h1 : n ≤ 18446744073709551615) :
    Calls Tryd.prog 50 #[.slice (some ad) 9 c] w fun e w' => e = .returned (.int .u64 n) ∧ ∃ m, w' = w.drewN m := by
  obtain ⟨ad', hA, hlt, hc⟩ := h.2 (by omega)
  injection hA with hA
  subst hA
  have q1 : w.cell? ⟨ad.block, ad.off + 1, none⟩ = some _ := hc 1 _ rfl
  have q2 : w.cell? ⟨ad.block, ad.off + 2, none⟩ = some _ := hc 2 _ rfl
  have q3 : w.cell? ⟨ad.block, ad.off + 3, none⟩ = some _ := hc 3 _ rfl
  have q4 : w.cell? ⟨ad.block, ad.off + 4, none⟩ = some _ := hc 4 _ rfl
  have q5 : w.cell? ⟨ad.block, ad.off + 5, none⟩ = some _ := hc 5 _ rfl
  have q6 : w.cell? ⟨ad.block, ad.off + 6, none⟩ = some _ := hc 6 _ rfl
  have q7 : w.cell? ⟨ad.block, ad.off + 7, none⟩ = some _ := hc 7 _ rfl
  have q8 : w.cell? ⟨ad.block, ad.off + 8, none⟩ = some _ := hc 8 _ rfl
  clear hc h hlt
  have y1 : n / 72057594037927936 % 256 * 72057594037927936 = n / 72057594037927936 * 72057594037927936 := by omega
  have z2 : bits .or .u64 (n / 72057594037927936 % 256 * 72057594037927936) (n / 281474976710656 % 256 * 281474976710656) = n / 281474976710656 * 281474976710656 := by rw [or_u64 56 _ _ (by omega) (by omega) (by omega) (by omega), IntKind.wrap_u64]; omega
  have z3 : bits .or .u64 (n / 281474976710656 * 281474976710656) (n / 1099511627776 % 256 * 1099511627776) = n / 1099511627776 * 1099511627776 := by rw [or_u64 48 _ _ (by omega) (by omega) (by omega) (by omega), IntKind.wrap_u64]; omega
  have z4 : bits .or .u64 (n / 1099511627776 * 1099511627776) (n / 4294967296 % 256 * 4294967296) = n / 4294967296 * 4294967296 := by rw [or_u64 40 _ _ (by omega) (by omega) (by omega) (by omega), IntKind.wrap_u64]; omega
  have z5 : bits .or .u64 (n / 4294967296 * 4294967296) (n / 16777216 % 256 * 16777216) = n / 16777216 * 16777216 := by rw [or_u64 32 _ _ (by omega) (by omega) (by omega) (by omega), IntKind.wrap_u64]; omega
  have z6 : bits .or .u64 (n / 16777216 * 16777216) (n / 65536 % 256 * 65536) = n / 65536 * 65536 := by rw [or_u64 24 _ _ (by omega) (by omega) (by omega) (by omega), IntKind.wrap_u64]; omega
  have z7 : bits .or .u64 (n / 65536 * 65536) (n / 256 % 256 * 256) = n / 256 * 256 := by rw [or_u64 16 _ _ (by omega) (by omega) (by omega) (by omega), IntKind.wrap_u64]; omega
  have z8 : bits .or .u64 (n / 256 * 256) (n % 256) = n := by rw [or_u64 8 _ _ (by omega) (by omega) (by omega) (by omega), IntKind.wrap_u64]; omega
  clear y1
  go_enter Tryd.func50, Tryd.ntmps50
  go_wp2
  go_quiet (fail)
  go_wp2
  go_ret
  exact ⟨rfl, _, rfl⟩

theorem isfix_yes (w : World) (b : Int) (h0 : 0 ≤ b) (h1 : b < 128) : Calls Tryd.prog 66 #[.int .u8 b] w fun e w' => e = .returned (.bool true) ∧ w = w' := by
  have hd : (b / 128 == 0) = true := by simp; omega
  go_enter Tryd.func66, Tryd.ntmps66
  go_wp2
  go_ret
  exact ⟨by first | rfl | simp [hd], rfl⟩
theorem isfix_no (w : World) (b : Int) (h0 : 128 ≤ b) (h1 : b < 256) : Calls Tryd.prog 66 #[.int .u8 b] w fun e w' => e = .returned (.bool false) ∧ w = w' := by
  have hd : (b / 128 == 0) = false := by simp; omega
  go_enter Tryd.func66, Tryd.ntmps66
  go_wp2
  go_ret
  exact ⟨by first | rfl | simp [hd], rfl⟩
theorem rfix_calls (w : World) (b : Int) : Calls Tryd.prog 67 #[.int .u8 b] w fun e w' => e = .returned (.int .u8 b) ∧ w = w' := by
  go_enter Tryd.func67, Tryd.ntmps67
  go_wp2
  go_ret
  exact ⟨rfl, rfl⟩
theorem and224 : ∀ r : Fin 256, (bits .and .u8 ((r.val : Nat) : Int) 224 == 224) = decide (224 ≤ r.val) := by decide +kernel
theorem isnfix_calls (w : World) (b : Int) (h0 : 0 ≤ b) (h1 : b < 256) : Calls Tryd.prog 68 #[.int .u8 b] w fun e w' => e = .returned (.bool (decide (224 ≤ b))) ∧ w = w' := by
  have hd : (bits .and .u8 b 224 == 224) = decide (224 ≤ b) := by
    have := and224 ⟨b.toNat, by omega⟩
    dsimp only at this
    have e : ((b.toNat : Nat) : Int) = b := by omega
    rw [e] at this
    rw [this]
    by_cases h : 224 ≤ b
    · rw [decide_eq_true h, decide_eq_true (show 224 ≤ b.toNat by omega)]
    · rw [decide_eq_false h, decide_eq_false (show ¬ 224 ≤ b.toNat by omega)]
  go_enter Tryd.func68, Tryd.ntmps68
  go_wp2
  go_ret
  exact ⟨by first | rfl | simp [hd], rfl⟩
theorem rnfix_calls (w : World) (b : Int) (h0 : 224 ≤ b) (h1 : b < 256) : Calls Tryd.prog 69 #[.int .u8 b] w fun e w' => e = .returned (.int .i8 (b - 256)) ∧ w = w' := by
  have hw : IntKind.i8.wrap b = b - 256 := by simp [IntKind.wrap, IntKind.bits, IntKind.signed]; omega
  go_enter Tryd.func69, Tryd.ntmps69
  go_wp2
  go_ret
  exact ⟨rfl, rfl⟩
end Go.Proofs.YtlpnaifagiddlaaDoor
