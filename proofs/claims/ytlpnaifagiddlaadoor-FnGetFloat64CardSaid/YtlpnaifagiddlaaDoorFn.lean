/- Floats of the two widths: a single is made a double. Of XFa, by wip/genfn.py. -/
import Derived.Test.YtlpnaifagiddlaaDoorPr
import Derived.Laws.Externs
import Derived.Laws.FloatArith
import Derived.Deep.QuietTactic
namespace Go.Proofs.YtlpnaifagiddlaaDoor
open Ieee

theorem shl (a b : Nat) : a <<< b = a * 2 ^ b := Nat.shiftLeft_eq a b

/-- Cutting nothing. -/
theorem cut_zero (neg : Bool) (n : Nat) : Toward.even.cut neg n 0 = n := by
  unfold Toward.cut
  simp [Nat.mod_one]

/-- Cutting rounds up by one at most, and not where nothing is left. -/
theorem cut_le (neg : Bool) (n drop : Nat) (h : drop ≤ n.log2 + 2) : Toward.even.cut neg n drop ≤ n / 2 ^ drop + 1 ∧ (n / 2 ^ drop < Toward.even.cut neg n drop → n / 2 ^ drop * 2 ^ drop < n) := by
  unfold Toward.cut
  simp only [Nat.min_eq_left h, shl, Nat.one_mul]
  have hp : 0 < 2 ^ drop := Nat.pow_pos (by omega)
  have hdm := Nat.div_add_mod n (2 ^ drop)
  generalize hd : n / 2 ^ drop = q at *
  generalize hr : n % 2 ^ drop = r at *
  generalize hg : 2 ^ drop = g at *
  constructor
  · cases (decide (g < 2 * r) || g == 2 * r && q % 2 == 1) <;> simp
  · intro hlt
    have : 0 < r := by
      rcases Nat.eq_zero_or_pos r with h0 | h0
      · subst h0
        exfalso
        have e : (decide (g < 2 * 0) || g == 2 * 0 && q % 2 == 1) = false := by simp; omega
        rw [e] at hlt
        simp at hlt
      · exact h0
    rw [Nat.mul_comm]
    omega
/-- Cutting very much leaves one at most. -/
theorem cut_much (neg : Bool) (n drop : Nat) (h : n.log2 + 2 ≤ drop) : Toward.even.cut neg n drop ≤ 1 := by
  unfold Toward.cut
  simp only [Nat.min_eq_right h, shl, Nat.one_mul]
  have hlt : n < 2 ^ (n.log2 + 2) := Nat.lt_of_lt_of_le Nat.lt_log2_self (Nat.pow_le_pow_right (by omega) (by omega))
  rw [Nat.div_eq_of_lt hlt]
  cases (decide (2 ^ (n.log2 + 2) < 2 * (n % 2 ^ (n.log2 + 2))) || 2 ^ (n.log2 + 2) == 2 * (n % 2 ^ (n.log2 + 2)) && 0 % 2 == 1) <;> simp

theorem lp1 : single.leastPlace = -149 := by decide
theorem lp2 : double.leastPlace = -1074 := by decide
theorem ir1 : single.infRung = 2139095040 := by decide
theorem ir2 : double.infRung = 9218868437227405312 := by decide
theorem bi1 : single.binade = 8388608 := by decide
theorem bi2 : double.binade = 4503599627370496 := by decide
theorem sw1 : single.signWeight = 2147483648 := by decide
theorem sw2 : double.signWeight = 9223372036854775808 := by decide

/-- A finite single: its significand and its place. -/
theorem single_read {r : Nat} {s : Bool} {m : Nat} {e : Int} (h : single.read r = .number s m e) : m < 16777216 ∧ -149 ≤ e ∧ e ≤ 104 := by
  unfold Format.read at h
  simp only [lp1, ir1, bi1, sw1] at h
  split at h
  · injection h with _ h1 h2
    omega
  · split at h
    · injection h with _ h1 h2
      omega
    · split at h <;> cases h

theorem single_inf {neg : Bool} {rung : Nat} (h : (single.read (single.word neg (min rung single.infRung))).isInfinity = true) : 2139095040 ≤ rung := by
  rcases Nat.lt_or_ge rung 2139095040 with hlt | hge
  · exfalso
    rw [ir1, Nat.min_eq_left (by omega)] at h
    have e : single.word neg rung % 2147483648 = rung := by
      unfold Format.word
      cases neg <;> simp [sw1] <;> omega
    unfold Format.read at h
    simp only [lp1, ir1, bi1, sw1, e] at h
    split at h
    · simp [Datum.isInfinity] at h
    · first
        | (rw [if_pos hlt] at h; simp [Datum.isInfinity] at h)
        | simp [Datum.isInfinity] at h
  · exact hge

/-- What is too great for a single. -/
theorem single_over {neg : Bool} {m : Nat} {e : Int} (h : (single.read (single.write (.number neg m e))).isInfinity = true) (b : Int) (hb : b ≤ e) (hb2 : b ≤ 104) :
    16777215 * 2 ^ (104 - b).toNat < m * 2 ^ (e - b).toNat := by
  replace h : (single.read (single.nearest neg m e)).isInfinity = true := h
  have hm : m ≠ 0 := by
    rintro rfl
    unfold Format.nearest at h
    rw [if_pos rfl] at h
    cases neg <;> revert h <;> decide
  have hL1 := Nat.log2_self_le hm
  have hL2 := @Nat.lt_log2_self m
  unfold Format.nearest at h
  rw [if_neg hm] at h
  have h2 := single_inf h
  clear h
  simp only [lp1, bi1, show single.fractionBits = 23 from rfl] at h2
  obtain ⟨L, hL⟩ : ∃ L, m.log2 = L := ⟨_, rfl⟩
  rw [hL] at hL1 hL2 h2
  obtain ⟨T, hT⟩ : ∃ T, max (e + (L : Int) - 23) (-149) = T := ⟨_, rfl⟩
  rw [show e + (L : Int) - ((23 : Nat) : Int) = e + (L : Int) - 23 from rfl, hT] at h2
  obtain ⟨K, hK⟩ : ∃ K, Toward.even.cut neg (m <<< (e - T).toNat) (T - e).toNat = K := ⟨_, rfl⟩
  rw [hK] at h2
  -- what is kept
  have key : K ≤ 16777216 ∧ (T = e + L - 23 → K = 16777216 → 16777215 * 2 ^ (T - e).toNat < m ∧ e < T) := by
    rcases Int.lt_or_le e T with hlt | hge
    · -- digits fall
      have e1 : (e - T).toNat = 0 := by omega
      rw [e1, shl, Nat.pow_zero, Nat.mul_one] at hK
      obtain ⟨d, hd⟩ : ∃ d, (T - e).toNat = d := ⟨_, rfl⟩
      rw [hd] at hK ⊢
      rcases Nat.lt_or_ge (L + 2) d with hc | hc
      · have := cut_much neg m d (by rw [hL]; omega)
        rw [hK] at this
        exact ⟨by omega, fun ht hk => by omega⟩
      · have hcl := cut_le neg m d (by rw [hL]; exact hc)
        rw [hK] at hcl
        have hLd : L + 1 ≤ d + 24 := by omega
        have hq : m / 2 ^ d < 16777216 := by
          rw [Nat.div_lt_iff_lt_mul (Nat.pow_pos (by omega)), show (16777216 : Nat) = 2 ^ 24 from rfl, ← Nat.pow_add]
          exact Nat.lt_of_lt_of_le hL2 (Nat.pow_le_pow_right (by omega) (by omega))
        refine ⟨by omega, fun _ hk => ⟨?_, hlt⟩⟩
        have h3 := hcl.2 (by omega)
        have h4 : m / 2 ^ d = 16777215 := by omega
        rw [h4] at h3
        exact h3
    · -- digits are added
      have e1 : (T - e).toNat = 0 := by omega
      rw [e1, cut_zero, shl] at hK
      have hlt : K < 16777216 := by
        rw [← hK]
        have : m * 2 ^ (e - T).toNat < 2 ^ (L + 1) * 2 ^ (e - T).toNat := Nat.mul_lt_mul_of_pos_right hL2 (Nat.pow_pos (by omega))
        rw [← Nat.pow_add] at this
        exact Nat.lt_of_lt_of_le this (Nat.pow_le_pow_right (by omega) (show L + 1 + (e - T).toNat ≤ 24 by omega))
      exact ⟨by omega, fun _ hk => by omega⟩
  obtain ⟨hk1, hk2⟩ := key
  have hT1 : 104 ≤ T := by omega
  have hT2 : T = e + L - 23 := by omega
  rcases Int.lt_or_le 104 T with hgt | hle
  · have p1 : 2 ^ L * 2 ^ (e - b).toNat ≤ m * 2 ^ (e - b).toNat := Nat.mul_le_mul_right _ hL1
    rw [← Nat.pow_add] at p1
    have p2 : 2 ^ (24 + (104 - b).toNat) ≤ 2 ^ (L + (e - b).toNat) := Nat.pow_le_pow_right (by omega) (by omega)
    rw [Nat.pow_add] at p2
    have p3 : 16777215 * 2 ^ (104 - b).toNat < 2 ^ 24 * 2 ^ (104 - b).toNat := Nat.mul_lt_mul_of_pos_right (by omega) (Nat.pow_pos (by omega))
    omega
  · have hTe : T = 104 := by omega
    have hK2 : K = 16777216 := by omega
    obtain ⟨h3, h4⟩ := hk2 hT2 hK2
    have p : 16777215 * 2 ^ (T - e).toNat * 2 ^ (e - b).toNat < m * 2 ^ (e - b).toNat := Nat.mul_lt_mul_of_pos_right h3 (Nat.pow_pos (by omega))
    rw [Nat.mul_assoc, ← Nat.pow_add, show (T - e).toNat + (e - b).toNat = (104 - b).toNat by omega] at p
    exact p

/-- A single as a double is the same number. -/
theorem double_exact (neg : Bool) (m : Nat) (e : Int) (hm : m < 16777216) (h0 : -149 ≤ e) (h1 : e ≤ 104) :
    ∃ s M E, double.read (double.write (.number neg m e)) = .number s M E ∧ ∀ b : Int, b ≤ E → b ≤ e → M * 2 ^ (E - b).toNat = m * 2 ^ (e - b).toNat := by
  rw [show double.write (.number neg m e) = double.nearest neg m e from rfl]
  unfold Format.nearest
  by_cases hz : m = 0
  · subst hz
    rw [if_pos rfl]
    cases neg
    · exact ⟨false, 0, -1074, by decide, fun b _ _ => by simp⟩
    · exact ⟨true, 0, -1074, by decide, fun b _ _ => by simp⟩
  · rw [if_neg hz]
    have hL1 := Nat.log2_self_le hz
    have hL2 := @Nat.lt_log2_self m
    have hLm : m.log2 < 24 := (Nat.log2_lt hz).2 hm
    simp only [lp2, bi2, ir2, show double.fractionBits = 52 from rfl]
    obtain ⟨L, hL⟩ : ∃ L, m.log2 = L := ⟨_, rfl⟩
    rw [hL] at hL1 hL2 hLm ⊢
    have hT : max (e + (L : Int) - ((52 : Nat) : Int)) (-1074) = e + L - 52 := by omega
    rw [hT, show (e + (L : Int) - 52 - e).toNat = 0 by omega, cut_zero, shl, show (e - (e + (L : Int) - 52)).toNat = 52 - L by omega]
    obtain ⟨K, hK⟩ : ∃ K, m * 2 ^ (52 - L) = K := ⟨_, rfl⟩
    have k0 : 4503599627370496 ≤ K := by
      rw [← hK]
      have : 2 ^ L * 2 ^ (52 - L) ≤ m * 2 ^ (52 - L) := Nat.mul_le_mul_right _ hL1
      rw [← Nat.pow_add, show L + (52 - L) = 52 by omega] at this
      exact this
    have k1 : K < 9007199254740992 := by
      rw [← hK]
      have : m * 2 ^ (52 - L) < 2 ^ (L + 1) * 2 ^ (52 - L) := Nat.mul_lt_mul_of_pos_right hL2 (Nat.pow_pos (by omega))
      rw [← Nat.pow_add, show L + 1 + (52 - L) = 53 by omega] at this
      exact this
    rw [hK]
    obtain ⟨P, hP⟩ : ∃ P, (e + (L : Int) - 52 - -1074).toNat = P := ⟨_, rfl⟩
    rw [hP]
    have hPb : P ≤ 1149 := by omega
    rw [Nat.min_eq_left (by omega)]
    obtain ⟨R, hR⟩ : ∃ R, P * 4503599627370496 + K = R := ⟨_, rfl⟩
    rw [hR]
    have w1 : double.word neg R % 9223372036854775808 = R := by
      unfold Format.word
      cases neg <;> simp [sw2] <;> omega
    refine ⟨double.word neg R / double.signWeight % 2 == 1, 4503599627370496 + R % 4503599627370496, -1074 + (R / 4503599627370496 - 1 : Nat), ?_, ?_⟩
    · unfold Format.read
      simp only [lp2, ir2, bi2, sw2, w1]
      rw [if_neg (by omega), if_pos (by omega)]
    · intro b hb hb2
      have e1 : 4503599627370496 + R % 4503599627370496 = K := by omega
      have e2 : (-1074 + ((R / 4503599627370496 - 1 : Nat) : Int)) = e + L - 52 := by omega
      rw [e1]
      rw [e2] at hb ⊢
      rw [← hK, Nat.mul_assoc, ← Nat.pow_add, show 52 - L + (e + (L : Int) - 52 - b).toNat = (e - b).toNat by omega]

theorem signed_abs (neg : Bool) (mag up : Nat) : (signed neg mag up).natAbs = mag * 2 ^ up := by
  unfold signed
  cases neg
  · show ((mag <<< up : Nat) : Int).natAbs = _
    rw [Int.natAbs_natCast, shl]
  · show (-((mag <<< up : Nat) : Int)).natAbs = _
    rw [Int.natAbs_neg, Int.natAbs_natCast, shl]

/-- No single is the same number as a double that is too great for one. -/
theorem over_ne {b r h : Nat} {s : Bool} {m : Nat} {e : Int} (hb : double.read b = .number s m e) (hov : (single.read (single.write (.number s m e))).isInfinity = true)
    (hh : (∃ t, single.read r = .infinity t ∧ h = double.write (.infinity t)) ∨ ∃ t n i, single.read r = .number t n i ∧ h = double.write (.number t n i)) : double.order h b ≠ some .eq := by
  unfold Format.order
  rw [hb]
  rcases hh with ⟨t, _, rfl⟩ | ⟨t, n, i, hr, rfl⟩
  · have e2 : double.read (double.write (.infinity t)) = .infinity t := by cases t <;> decide
    rw [e2]
    cases t <;> simp [Datum.order]
  · obtain ⟨hn, hi0, hi1⟩ := single_read hr
    obtain ⟨s2, M, E, hM, hx⟩ := double_exact t n i hn hi0 hi1
    rw [hM]
    intro hc
    simp only [Datum.order, Option.some.injEq] at hc
    have hq := congrArg Int.natAbs (Std.LawfulEqCmp.eq_of_compare hc)
    rw [signed_abs, signed_abs] at hq
    obtain ⟨B, hB⟩ : ∃ B, min E e = B := ⟨_, rfl⟩
    rw [hB] at hq
    obtain ⟨C, hC⟩ : ∃ C, min B (min 104 i) = C := ⟨_, rfl⟩
    have h1 := single_over hov C (by omega) (by omega)
    have h2 := hx C (by omega) (by omega)
    have h3 : M * 2 ^ (E - B).toNat * 2 ^ (B - C).toNat = m * 2 ^ (e - B).toNat * 2 ^ (B - C).toNat := by rw [hq]
    rw [Nat.mul_assoc, Nat.mul_assoc, ← Nat.pow_add, ← Nat.pow_add, show (E - B).toNat + (B - C).toNat = (E - C).toNat by omega, show (e - B).toNat + (B - C).toNat = (e - C).toNat by omega] at h3
    have h4 : n * 2 ^ (i - C).toNat ≤ 16777215 * 2 ^ (104 - C).toNat := Nat.mul_le_mul (by omega) (Nat.pow_le_pow_right (by omega) (by omega))
    omega

theorem double_nan (t : Nat) : (double.read (t % 2 * 2 ^ 63 + 0x7ff0000000000000 + 1 + (t / 2) % (2 ^ 52 - 1))).isNaN = true := by
  unfold Format.read
  simp only [lp2, ir2, bi2, sw2]
  have e : (t % 2 * 2 ^ 63 + 0x7ff0000000000000 + 1 + (t / 2) % (2 ^ 52 - 1)) % 9223372036854775808 = 0x7ff0000000000000 + 1 + (t / 2) % (2 ^ 52 - 1) := by omega
  rw [e, if_neg (by omega), if_neg (by omega), if_neg (by omega)]
  rfl

/-- 'float64(x)' of any single: a NaN, or a fixed double. -/
theorem widen {P : Program} (src dst : TypeId) (hs : (P.underlying src).isSome = true) (hd : P.underlying dst = some (.float .f64)) (r : Nat) :
    ∃ (G : World → Nat) (D : World → World), (∀ w, (convert src dst (.float .f32 r)).run P w = .ok (.float .f64 (G w)) (D w)) ∧ (∀ w, ∃ n, D w = w.drewN n) ∧
      ((∀ w, (double.read (G w)).isNaN = true) ∨ ∃ h, (∀ w, G w = h) ∧ ((∃ t, single.read r = .infinity t ∧ h = double.write (.infinity t)) ∨ ∃ t n i, single.read r = .number t n i ∧ h = double.write (.number t n i))) := by
  obtain ⟨u, hs'⟩ := Option.isSome_iff_exists.1 hs
  cases hr : single.read r with
  | nan t f =>
    refine ⟨fun w => (Question.nanConv .f64 r).cut (w.tape w.drawn (.nanConv .f64 r)), fun w => w.drew, fun w => ?_, fun w => ⟨1, rfl⟩, .inl fun w => double_nan _⟩
    have hr' : FloatKind.decode .f32 r = .nan t f := hr
    cases u <;> simp [convert, run_underlying hs', run_underlying hd, Conv.floatToFloat, hr', Question.forced]
  | infinity t =>
    have hk : floatToFloatBits .f32 r .f64 = some (double.write (.infinity t)) := by
      have hr' : FloatKind.decode .f32 r = .infinity t := hr
      unfold floatToFloatBits
      rw [if_neg (by decide), hr']
      rfl
    exact ⟨fun _ => _, fun w => w, fun w => run_convert_float_float w src dst .f32 .f64 r _ hs hd hk, fun w => ⟨0, rfl⟩, .inr ⟨_, fun _ => rfl, .inl ⟨t, rfl, rfl⟩⟩⟩
  | number t n i =>
    obtain ⟨hn, hi0, hi1⟩ := single_read hr
    obtain ⟨s2, M, E, hM, _⟩ := double_exact t n i hn hi0 hi1
    have hk : floatToFloatBits .f32 r .f64 = some (double.write (.number t n i)) := by
      have hr' : FloatKind.decode .f32 r = .number t n i := hr
      unfold floatToFloatBits
      rw [if_neg (by decide), hr']
      have : (FloatKind.decode .f64 (FloatKind.encode .f64 (.number t n i))).isInfinity = false := by
        show (double.read (double.write (.number t n i))).isInfinity = false
        rw [hM]; rfl
      simp only [this]
      rfl
    exact ⟨fun _ => _, fun w => w, fun w => run_convert_float_float w src dst .f32 .f64 r _ hs hd hk, fun w => ⟨0, rfl⟩, .inr ⟨_, fun _ => rfl, .inr ⟨t, n, i, rfl, rfl⟩⟩⟩

theorem run_eql {P : Program} (ty : TypeId) (x y : Nat) (W : World) : (binOp .eql ty (.float .f64 x) (.float .f64 y)).run P W = .ok (.bool (double.order x y == some .eq)) W := rfl
theorem run_neq {P : Program} (ty : TypeId) (x y : Nat) (W : World) : (binOp .neq ty (.float .f64 x) (.float .f64 y)).run P W = .ok (.bool (double.order x y != some .eq)) W := rfl
theorem order_nan {x y : Nat} (h : (double.read x).isNaN = true) : double.order x y = none := by
  unfold Format.order
  cases hx : double.read x with
  | nan s f => rfl
  | infinity s => rw [hx] at h; cases h
  | number s m e => rw [hx] at h; cases h
theorem order_self {x : Nat} (h : (double.read x).isNaN = false) : double.order x x = some .eq := by
  unfold Format.order
  cases hx : double.read x with
  | nan s f => rw [hx] at h; cases h
  | infinity s => simp [Datum.order]
  | number s m e => simp [Datum.order]


open Go
/-- The double that is a single. -/
def wideOk (r x : Nat) : Prop := ((single.read r).isNaN = true ∧ (double.read x).isNaN = true) ∨ ((single.read r).isNaN = false ∧ x = double.write (single.read r))
theorem widen2 {P : Program} (src dst : TypeId) (hs : (P.underlying src).isSome = true) (hd : P.underlying dst = some (.float .f64)) (r : Nat) :
    ∃ (G n : World → Nat), (∀ w, (convert src dst (.float .f32 r)).run P w = .ok (.float .f64 (G w)) (w.drewN (n w))) ∧ ∀ w, wideOk r (G w) := by
  obtain ⟨u, hs'⟩ := Option.isSome_iff_exists.1 hs
  cases hr : single.read r with
  | nan t f =>
    refine ⟨fun w => (Question.nanConv .f64 r).cut (w.tape w.drawn (.nanConv .f64 r)), fun w => 1, fun w => ?_, fun w => .inl ⟨by rw [hr]; rfl, double_nan _⟩⟩
    have hr' : FloatKind.decode .f32 r = .nan t f := hr
    show (convert src dst (.float .f32 r)).run P w = .ok _ w.drew
    cases u <;> simp [convert, run_underlying hs', run_underlying hd, Conv.floatToFloat, hr', Question.forced]
  | infinity t =>
    have hk : floatToFloatBits .f32 r .f64 = some (double.write (.infinity t)) := by
      have hr' : FloatKind.decode .f32 r = .infinity t := hr
      unfold floatToFloatBits
      rw [if_neg (by decide), hr']
      rfl
    exact ⟨fun _ => _, fun w => 0, fun w => run_convert_float_float w src dst .f32 .f64 r _ hs hd hk, fun w => .inr ⟨by rw [hr]; rfl, by rw [hr]⟩⟩
  | number t n i =>
    obtain ⟨hn, hi0, hi1⟩ := single_read hr
    obtain ⟨s2, M, E, hM, _⟩ := double_exact t n i hn hi0 hi1
    have hk : floatToFloatBits .f32 r .f64 = some (double.write (.number t n i)) := by
      have hr' : FloatKind.decode .f32 r = .number t n i := hr
      unfold floatToFloatBits
      rw [if_neg (by decide), hr']
      have : (FloatKind.decode .f64 (FloatKind.encode .f64 (.number t n i))).isInfinity = false := by
        show (double.read (double.write (.number t n i))).isInfinity = false
        rw [hM]; rfl
      simp only [this]
      rfl
    exact ⟨fun _ => _, fun w => 0, fun w => run_convert_float_float w src dst .f32 .f64 r _ hs hd hk, fun w => .inr ⟨by rw [hr]; rfl, by rw [hr]⟩⟩
theorem frombits32 (n : Nat) (W : World) : (callFunc 14 #[.int .u32 (n : Int)]).run Tryd.prog W = .ok (.value (.float .f32 n)) W :=
  (run_callFunc_extern Tryd.func14 (by kernel_rfl) (by kernel_rfl) (by kernel_rfl) (e := Extern.MathFloatBits.float32frombits) (by kernel_rfl) #[.int .u32 (n : Int)] W).trans rfl
theorem frombits64 (n : Nat) (W : World) : (callFunc 13 #[.int .u64 (n : Int)]).run Tryd.prog W = .ok (.value (.float .f64 n)) W :=
  (run_callFunc_extern Tryd.func13 (by kernel_rfl) (by kernel_rfl) (by kernel_rfl) (e := Extern.MathFloatBits.float64frombits) (by kernel_rfl) #[.int .u64 (n : Int)] W).trans rfl
theorem bits64 (n : Nat) (W : World) : (callFunc 15 #[.float .f64 n]).run Tryd.prog W = .ok (.value (.int .u64 (n : Int))) W :=
  (run_callFunc_extern Tryd.func15 (by kernel_rfl) (by kernel_rfl) (by kernel_rfl) (e := Extern.MathFloatBits.float64bits) (by kernel_rfl) #[.float .f64 n] W).trans rfl
/-- A call of a function without a body, of one argument, whose run is known. -/
theorem wpList_fn {P : Program} {ops : Array Oper} {Q : Exit → Act → World → Prop} {rest : List Oper} {o : Oper} {a : Act} {w : World} (hgd : o.guard = none) (F : FuncId) (x : Operand) (ty : TypeId)
    (ho : o.op = .call { callee := .value (.func F), args := #[x], argTypes := #[ty] }) {v r : Value} (hx : a.eval x = v) (hr : (callFunc F #[v]).run P w = .ok (.value r) w) (h : wpList P ops Q rest (a.put o.dst r) w) : wpList P ops Q (o :: rest) a w :=
  wpList_plain hgd fun K hK => by
    unfold Oper.wp execOp
    have hf : a.eval (.func F) = .func (.func F) #[] #[] := rfl
    simp [ho, resolve, invoke, Deferred.ofValue, hf, hx, hr]
    exact hK _ _ h
end Go.Proofs.YtlpnaifagiddlaaDoor
