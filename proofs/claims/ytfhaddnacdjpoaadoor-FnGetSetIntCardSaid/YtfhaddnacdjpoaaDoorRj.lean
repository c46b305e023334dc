/- msgp's numbers of bytes: getMint.., getMuint.., fixint. PRINTED by wip/genrj.py. -/
import Derived.Test.YtfhaddnacdjpoaaDoorRk
import Derived.Laws.BitsAllLaws
namespace Go.Proofs.YtfhaddnacdjpoaaDoor
open Go.RowKit
set_option linter.unusedVariables false

theorem add_zeroJ (a : Addr) : a.add 0 = a := by simp [Addr.add]
theorem nat_joinJ (i a b : Nat) (hb : b % 2 ^ i = 0) (ha : a < 2 ^ i) : a ||| b = a + b := by
  obtain ⟨k, rfl⟩ : ∃ k, b = 2 ^ i * k := ⟨b / 2 ^ i, by have := Nat.div_add_mod b (2 ^ i); rw [hb] at this; omega⟩
  rw [Nat.or_comm, ← Nat.two_pow_add_eq_or_of_lt ha]
  omega
theorem or_parts (W i : Nat) (a b : Int) (hi : i ≤ W) (hb0 : 0 ≤ b) (hb1 : b < 2 ^ i) (ha : a % 2 ^ i = 0) :
    (((BitVec.ofInt W a ||| BitVec.ofInt W b).toNat : Nat) : Int) = a % 2 ^ W + b % 2 ^ W := by
  rw [BitVec.toNat_or, BitVec.toNat_ofInt, BitVec.toNat_ofInt]
  have hW : (0 : Int) < 2 ^ W := Int.pow_pos (by omega)
  have hiW : ((2 : Int) ^ i) ≤ 2 ^ W := by
    have := Nat.pow_le_pow_right (n := 2) (by omega) hi
    exact_mod_cast this
  have hbm : b % 2 ^ W = b := Int.emod_eq_of_lt hb0 (by omega)
  have ham := Int.emod_nonneg a (show (2 : Int) ^ W ≠ 0 by omega)
  have hdvd : ((2 : Int) ^ i) ∣ 2 ^ W := by
    obtain ⟨d, rfl⟩ : ∃ d, W = i + d := ⟨W - i, by omega⟩
    exact ⟨2 ^ d, by rw [Int.pow_add]⟩
  have hai : (a % 2 ^ W) % 2 ^ i = 0 := by rw [Int.emod_emod_of_dvd a hdvd]; exact ha
  have e1 : ((2 ^ W : Nat) : Int) = (2 : Int) ^ W := by norm_cast
  rw [e1, hbm]
  have h3 : (a % 2 ^ W).toNat % 2 ^ i = 0 := by
    have h4 : (((a % 2 ^ W).toNat % 2 ^ i : Nat) : Int) = (a % 2 ^ W) % 2 ^ i := by
      rw [Int.natCast_emod, Int.toNat_of_nonneg ham]
      norm_cast
    omega
  have h5 : b.toNat < 2 ^ i := by
    have h2 : ((2 ^ i : Nat) : Int) = (2 : Int) ^ i := by norm_cast
    omega
  rw [Nat.or_comm, nat_joinJ i _ _ h3 h5]
  omega
theorem wrapJ_i16 (n : Int) : IntKind.i16.wrap n = (n + 32768) % 65536 - 32768 := by simp [IntKind.wrap, IntKind.bits, IntKind.signed]; omega
theorem or_i16 (i : Nat) (a b : Int) (hi : i ≤ 16) (hb0 : 0 ≤ b) (hb1 : b < 2 ^ i) (ha : a % 2 ^ i = 0) : bits .or .i16 a b = IntKind.i16.wrap (a + b) := by
  show IntKind.i16.wrap (((BitVec.ofInt 16 a ||| BitVec.ofInt 16 b).toNat : Nat) : Int) = _
  rw [or_parts 16 i a b hi hb0 hb1 ha, wrapJ_i16, wrapJ_i16]
  have e : (2 : Int) ^ 16 = 65536 := by decide
  rw [e]
  omega
theorem or_i32 (i : Nat) (a b : Int) (hi : i ≤ 32) (hb0 : 0 ≤ b) (hb1 : b < 2 ^ i) (ha : a % 2 ^ i = 0) : bits .or .i32 a b = IntKind.i32.wrap (a + b) := by
  show IntKind.i32.wrap (((BitVec.ofInt 32 a ||| BitVec.ofInt 32 b).toNat : Nat) : Int) = _
  rw [or_parts 32 i a b hi hb0 hb1 ha, IntKind.wrap_i32, IntKind.wrap_i32]
  have e : (2 : Int) ^ 32 = 4294967296 := by decide
  rw [e]
  omega
theorem or_i64 (i : Nat) (a b : Int) (hi : i ≤ 64) (hb0 : 0 ≤ b) (hb1 : b < 2 ^ i) (ha : a % 2 ^ i = 0) : bits .or .i64 a b = IntKind.i64.wrap (a + b) := by
  show IntKind.i64.wrap (((BitVec.ofInt 64 a ||| BitVec.ofInt 64 b).toNat : Nat) : Int) = _
  rw [or_parts 64 i a b hi hb0 hb1 ha, IntKind.wrap_i64, IntKind.wrap_i64]
  have e : (2 : Int) ^ 64 = 18446744073709551616 := by decide
  rw [e]
  omega
theorem or_u16 (i : Nat) (a b : Int) (hi : i ≤ 16) (hb0 : 0 ≤ b) (hb1 : b < 2 ^ i) (ha : a % 2 ^ i = 0) : bits .or .u16 a b = IntKind.u16.wrap (a + b) := by
  show IntKind.u16.wrap (((BitVec.ofInt 16 a ||| BitVec.ofInt 16 b).toNat : Nat) : Int) = _
  rw [or_parts 16 i a b hi hb0 hb1 ha, IntKind.wrap_u16, IntKind.wrap_u16]
  have e : (2 : Int) ^ 16 = 65536 := by decide
  rw [e]
  omega
theorem or_u32 (i : Nat) (a b : Int) (hi : i ≤ 32) (hb0 : 0 ≤ b) (hb1 : b < 2 ^ i) (ha : a % 2 ^ i = 0) : bits .or .u32 a b = IntKind.u32.wrap (a + b) := by
  show IntKind.u32.wrap (((BitVec.ofInt 32 a ||| BitVec.ofInt 32 b).toNat : Nat) : Int) = _
  rw [or_parts 32 i a b hi hb0 hb1 ha, IntKind.wrap_u32, IntKind.wrap_u32]
  have e : (2 : Int) ^ 32 = 4294967296 := by decide
  rw [e]
  omega
theorem or_u64 (i : Nat) (a b : Int) (hi : i ≤ 64) (hb0 : 0 ≤ b) (hb1 : b < 2 ^ i) (ha : a % 2 ^ i = 0) : bits .or .u64 a b = IntKind.u64.wrap (a + b) := by
  show IntKind.u64.wrap (((BitVec.ofInt 64 a ||| BitVec.ofInt 64 b).toNat : Nat) : Int) = _
  rw [or_parts 64 i a b hi hb0 hb1 ha, IntKind.wrap_u64, IntKind.wrap_u64]
  have e : (2 : Int) ^ 64 = 18446744073709551616 := by decide
  rw [e]
  omega









theorem isfix_yes (w : World) (b : Int) (h0 : 0 ≤ b) (h1 : b < 128) : Calls Tryd.prog 51 #[.int .u8 b] w fun e w' => e = .returned (.bool true) ∧ w = w' := by
  have hd : (b / 128 == 0) = true := by simp; omega
  go_enter Tryd.func51, Tryd.ntmps51
  go_wp2
  go_ret
  exact ⟨by first | rfl | simp [hd], rfl⟩
theorem isfix_no (w : World) (b : Int) (h0 : 128 ≤ b) (h1 : b < 256) : Calls Tryd.prog 51 #[.int .u8 b] w fun e w' => e = .returned (.bool false) ∧ w = w' := by
  have hd : (b / 128 == 0) = false := by simp; omega
  go_enter Tryd.func51, Tryd.ntmps51
  go_wp2
  go_ret
  exact ⟨by first | rfl | simp [hd], rfl⟩
theorem rfix_calls (w : World) (b : Int) : Calls Tryd.prog 52 #[.int .u8 b] w fun e w' => e = .returned (.int .u8 b) ∧ w = w' := by
  go_enter Tryd.func52, Tryd.ntmps52
  go_wp2
  go_ret
  exact ⟨rfl, rfl⟩
theorem and224 : ∀ r : Fin 256, (bits .and .u8 ((r.val : Nat) : Int) 224 == 224) = decide (224 ≤ r.val) := by decide +kernel
theorem isnfix_calls (w : World) (b : Int) (h0 : 0 ≤ b) (h1 : b < 256) : Calls Tryd.prog 54 #[.int .u8 b] w fun e w' => e = .returned (.bool (decide (224 ≤ b))) ∧ w = w' := by
  have hd : (bits .and .u8 b 224 == 224) = decide (224 ≤ b) := by
    have := and224 ⟨b.toNat, by omega⟩
    dsimp only at this
    have e : ((b.toNat : Nat) : Int) = b := by omega
    rw [e] at this
    rw [this]
    by_cases h : 224 ≤ b
    · rw [decide_eq_true h, decide_eq_true (show 224 ≤ b.toNat by omega)]
    · rw [decide_eq_false h, decide_eq_false (show ¬ 224 ≤ b.toNat by omega)]
  go_enter Tryd.func54, Tryd.ntmps54
  go_wp2
  go_ret
  exact ⟨by first | rfl | simp [hd], rfl⟩
theorem rnfix_calls (w : World) (b : Int) (h0 : 224 ≤ b) (h1 : b < 256) : Calls Tryd.prog 55 #[.int .u8 b] w fun e w' => e = .returned (.int .i8 (b - 256)) ∧ w = w' := by
  have hw : IntKind.i8.wrap b = b - 256 := by simp [IntKind.wrap, IntKind.bits, IntKind.signed]; omega
  go_enter Tryd.func55, Tryd.ntmps55
  go_wp2
  go_ret
  exact ⟨rfl, rfl⟩
end Go.Proofs.YtfhaddnacdjpoaaDoor
