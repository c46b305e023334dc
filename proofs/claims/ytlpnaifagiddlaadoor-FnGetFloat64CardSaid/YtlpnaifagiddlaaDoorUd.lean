/- ReadFloat32Bytes, ReadFloat64Bytes, GetFloat64. PRINTED by wip/genud.py. -/
import Derived.Test.YtlpnaifagiddlaaDoorPz
import Derived.Test.YtlpnaifagiddlaaDoorFn
namespace Go.Proofs.YtlpnaifagiddlaaDoor
open Go.RowKit
set_option linter.unusedVariables false

set_option maxHeartbeats 2000000 in
set_option maxRecDepth 100000 in
theorem getMuint32_any (w : World) (B c : Nat) (ad : Addr) (cd n : Int) (m0 : Nat) (tot : List Int) (h : Reads w B 1 (some ad) m0 (bs ([cd, n / 16777216 % 256, n / 65536 % 256, n / 256 % 256, n % 256] ++ tot))) (hm0 : 5 ≤ m0) (hm1 : m0 ≤ 9223372036854775807) (h0 : 0 ≤ n) (h1 : n ≤ 4294967295) :
    Calls Tryd.prog 61 #[.slice (some ad) m0 c] w fun e w' => e = .returned (.int .u32 n) ∧ ∃ m, w' = w.drewN m := by
  obtain ⟨ad', hA, hlt, hc⟩ := h.2 (by omega)
  injection hA with hA
  subst hA
  have q1 : w.cell? ⟨ad.block, ad.off + 1, none⟩ = some _ := hc 1 _ rfl
  have q2 : w.cell? ⟨ad.block, ad.off + 2, none⟩ = some _ := hc 2 _ rfl
  have q3 : w.cell? ⟨ad.block, ad.off + 3, none⟩ = some _ := hc 3 _ rfl
  have q4 : w.cell? ⟨ad.block, ad.off + 4, none⟩ = some _ := hc 4 _ rfl
  clear hc h hlt
  have y1 : n / 16777216 % 256 * 16777216 = n / 16777216 * 16777216 := by omega
  have z2 : bits .or .u32 (n / 16777216 % 256 * 16777216) (n / 65536 % 256 * 65536) = n / 65536 * 65536 := by rw [or_u32 24 _ _ (by omega) (by omega) (by omega) (by omega), IntKind.wrap_u32]; omega
  have z3 : bits .or .u32 (n / 65536 * 65536) (n / 256 % 256 * 256) = n / 256 * 256 := by rw [or_u32 16 _ _ (by omega) (by omega) (by omega) (by omega), IntKind.wrap_u32]; omega
  have z4 : bits .or .u32 (n / 256 * 256) (n % 256) = n := by rw [or_u32 8 _ _ (by omega) (by omega) (by omega) (by omega), IntKind.wrap_u32]; omega
  clear y1
  go_enter Tryd.func61, Tryd.ntmps61
  go_wp2
  go_quiet (fail)
  go_wp2
  go_ret
  exact ⟨rfl, _, rfl⟩

set_option maxHeartbeats 2000000 in
set_option maxRecDepth 100000 in
theorem getMuint64_any (w : World) (B c : Nat) (ad : Addr) (cd n : Int) (m0 : Nat) (tot : List Int) (h : Reads w B 1 (some ad) m0 (bs ([cd, n / 72057594037927936 % 256, n / 281474976710656 % 256, n / 1099511627776 % 256, n / 4294967296 % 256, n / 16777216 % 256, n / 65536 % 256, n / 256 % 256, n % 256] ++ tot))) (hm0 : 9 ≤ m0) (hm1 : m0 ≤ 9223372036854775807) (h0 : 0 ≤ n) (h1 : n ≤ 18446744073709551615) :
    Calls Tryd.prog 50 #[.slice (some ad) m0 c] w fun e w' => e = .returned (.int .u64 n) ∧ ∃ m, w' = w.drewN m := by
  obtain ⟨ad', hA, hlt, hc⟩ := h.2 (by omega)
  injection hA with hA
  subst hA
  have q1 : w.cell? ⟨ad.block, ad.off + 1, none⟩ = some _ := hc 1 _ rfl
  have q2 : w.cell? ⟨ad.block, ad.off + 2, none⟩ = some _ := hc 2 _ rfl
  have q3 : w.cell? ⟨ad.block, ad.off + 3, none⟩ = some _ := hc 3 _ rfl
  have q4 : w.cell? ⟨ad.block, ad.off + 4, none⟩ = some _ := hc 4 _ rfl
  have q5 : w.cell? ⟨ad.block, ad.off + 5, none⟩ = some _ := hc 5 _ rfl
  have q6 : w.cell? ⟨ad.block, ad.off + 6, none⟩ = some _ := hc 6 _ rfl
  have q7 : w.cell? ⟨ad.block, ad.off + 7, none⟩ = some _ := hc 7 _ rfl
  have q8 : w.cell? ⟨ad.block, ad.off + 8, none⟩ = some _ := hc 8 _ rfl
  clear hc h hlt
  have y1 : n / 72057594037927936 % 256 * 72057594037927936 = n / 72057594037927936 * 72057594037927936 := by omega
  have z2 : bits .or .u64 (n / 72057594037927936 % 256 * 72057594037927936) (n / 281474976710656 % 256 * 281474976710656) = n / 281474976710656 * 281474976710656 := by rw [or_u64 56 _ _ (by omega) (by omega) (by omega) (by omega), IntKind.wrap_u64]; omega
  have z3 : bits .or .u64 (n / 281474976710656 * 281474976710656) (n / 1099511627776 % 256 * 1099511627776) = n / 1099511627776 * 1099511627776 := by rw [or_u64 48 _ _ (by omega) (by omega) (by omega) (by omega), IntKind.wrap_u64]; omega
  have z4 : bits .or .u64 (n / 1099511627776 * 1099511627776) (n / 4294967296 % 256 * 4294967296) = n / 4294967296 * 4294967296 := by rw [or_u64 40 _ _ (by omega) (by omega) (by omega) (by omega), IntKind.wrap_u64]; omega
  have z5 : bits .or .u64 (n / 4294967296 * 4294967296) (n / 16777216 % 256 * 16777216) = n / 16777216 * 16777216 := by rw [or_u64 32 _ _ (by omega) (by omega) (by omega) (by omega), IntKind.wrap_u64]; omega
  have z6 : bits .or .u64 (n / 16777216 * 16777216) (n / 65536 % 256 * 65536) = n / 65536 * 65536 := by rw [or_u64 24 _ _ (by omega) (by omega) (by omega) (by omega), IntKind.wrap_u64]; omega
  have z7 : bits .or .u64 (n / 65536 * 65536) (n / 256 % 256 * 256) = n / 256 * 256 := by rw [or_u64 16 _ _ (by omega) (by omega) (by omega) (by omega), IntKind.wrap_u64]; omega
  have z8 : bits .or .u64 (n / 256 * 256) (n % 256) = n := by rw [or_u64 8 _ _ (by omega) (by omega) (by omega) (by omega), IntKind.wrap_u64]; omega
  clear y1
  go_enter Tryd.func50, Tryd.ntmps50
  go_wp2
  go_quiet (fail)
  go_wp2
  go_ret
  exact ⟨rfl, _, rfl⟩

/-- A double is read; what stands behind it is handed on. -/
def RFD (p : Nat → Prop) (tot : List Int) (B : Nat) (w : World) (e : Ending) (w' : World) : Prop :=
  ∃ x A c, p x ∧ e = .returned (.tuple #[.float .f64 x, .slice A tot.length c, .nilIface]) ∧ tot.length ≤ c ∧ c ≤ maxLen ∧ Reads w' B 1 A tot.length (bs tot) ∧ Below w.heap.size w w'
def RFE (w : World) (e : Ending) (w' : World) : Prop :=
  (∃ x A m c t v, e = .returned (.tuple #[.float .f64 x, .slice A m c, .iface t v])) ∧ Below w.heap.size w w'
def GFD (p : Nat → Prop) (tot : List Int) (w : World) (e : Ending) (w' : World) : Prop :=
  ∃ (x : Nat) (A : Option Addr) (c : Nat), p x ∧ e = .returned (.tuple #[.int .u64 (x : Int), .slice A tot.length c, .bool true]) ∧ Reads w' w'.heap.size 1 A tot.length (bs tot) ∧ Below w.heap.size w w'

set_option maxHeartbeats 4000000 in
set_option maxRecDepth 100000 in
theorem RF32_ok (W : World) (B c : Nat) (ad : Addr) (n : Nat) (tot : List Int) (h : Reads W B 1 (some ad) (tot.length + 5) (bs ([202, (n : Int) / 16777216 % 256, (n : Int) / 65536 % 256, (n : Int) / 256 % 256, (n : Int) % 256] ++ tot))) (hmc : tot.length + 5 ≤ c) (hcm : c ≤ maxLen) (hB : B ≤ W.heap.size) (h1 : (n : Int) < 4294967296) :
    Calls Tryd.prog 48 #[.slice (some ad) (tot.length + 5) c] W (fun e w' => ∃ A c', e = .returned (.tuple #[.float .f32 n, .slice A tot.length c', .nilIface]) ∧ tot.length ≤ c' ∧ c' ≤ maxLen ∧ Reads w' B 1 A tot.length (bs tot) ∧ Below W.heap.size W w') := by
  obtain ⟨m, hm⟩ : ∃ m, m = tot.length + 5 := ⟨_, rfl⟩
  rw [← hm] at h hmc ⊢
  obtain ⟨ad', hA, hlt, hc⟩ := h.2 (by omega)
  injection hA with hA
  subst hA
  have hlw : ad.block < W.heap.size := by omega
  have hm1 : m ≤ 9223372036854775807 := by simp only [maxLen] at hcm; omega
  have hc1 : c ≤ 9223372036854775807 := by simp only [maxLen] at hcm; omega
  have q0 := hc 0 _ rfl
  rw [add_zeroQ] at q0
  clear hc
  have HR := Lib.hid h
  clear h
  have hm5 : m - 5 = tot.length := by omega
  have hm6 : 5 ≤ m := by omega
  have d5 : decide ((m : Int) < 5) = false := decide_eq_false (by omega)
  have HM := Lib.hid hm
  clear hm
  by_cases hck : c = 5
  · go_enter Tryd.func48, Tryd.ntmps48
    go_wp2_with (first
      | (refine gate_dst (N := 21) rfl ?_
         refine wpList_fn rfl 14 _ _ rfl rfl (frombits32 n _) ?_)
      | (go_at_call 61
         go_must (
           (refine (getMuint32_any _ B _ ad 202 (n : Int) _ tot HR.out (by omega) (by omega) (by omega) (by omega)).mono ?_)
           rintro e w2 ⟨rfl, n2, rfl⟩
           rename_i hKK
           refine hKK _ _ ?_
           clear hKK)))
    all_goals (
      ((try simp only [Exit.inBlock, Exit.then]); refine bodyPost_ret (results_tmp3Q rfl _ _ _) rfl ?_)
      first
        | exact ⟨_, _, rfl, by omega, by omega, (Reads.tailQ (HR.out.drewN _) 5 rfl (by omega)), below_drewN (Below.refl _ _) _⟩
        | exact ⟨_, _, rfl, by omega, by omega, Reads.zeroQ (by omega), below_drewN (Below.refl _ _) _⟩)
  · go_enter Tryd.func48, Tryd.ntmps48
    go_wp2_with (first
      | (refine gate_dst (N := 21) rfl ?_
         refine wpList_fn rfl 14 _ _ rfl rfl (frombits32 n _) ?_)
      | (go_at_call 61
         go_must (
           (refine (getMuint32_any _ B _ ad 202 (n : Int) _ tot HR.out (by omega) (by omega) (by omega) (by omega)).mono ?_)
           rintro e w2 ⟨rfl, n2, rfl⟩
           rename_i hKK
           refine hKK _ _ ?_
           clear hKK)))
    all_goals (
      ((try simp only [Exit.inBlock, Exit.then]); refine bodyPost_ret (results_tmp3Q rfl _ _ _) rfl ?_)
      first
        | exact ⟨_, _, rfl, by omega, by omega, (Reads.tailQ (HR.out.drewN _) 5 rfl (by omega)), below_drewN (Below.refl _ _) _⟩
        | exact ⟨_, _, rfl, by omega, by omega, Reads.zeroQ (by omega), below_drewN (Below.refl _ _) _⟩)

set_option maxHeartbeats 4000000 in
set_option maxRecDepth 100000 in
theorem RF64_d (W : World) (B c : Nat) (ad : Addr) (n : Nat) (tot : List Int) (h : Reads W B 1 (some ad) (tot.length + 9) (bs ([203, (n : Int) / 72057594037927936 % 256, (n : Int) / 281474976710656 % 256, (n : Int) / 1099511627776 % 256, (n : Int) / 4294967296 % 256, (n : Int) / 16777216 % 256, (n : Int) / 65536 % 256, (n : Int) / 256 % 256, (n : Int) % 256] ++ tot))) (hmc : tot.length + 9 ≤ c) (hcm : c ≤ maxLen) (hB : B ≤ W.heap.size) (h1 : (n : Int) < 18446744073709551616) :
    Calls Tryd.prog 31 #[.slice (some ad) (tot.length + 9) c] W (RFD (fun x => x = n) tot B W) := by
  obtain ⟨m, hm⟩ : ∃ m, m = tot.length + 9 := ⟨_, rfl⟩
  rw [← hm] at h hmc ⊢
  obtain ⟨ad', hA, hlt, hc⟩ := h.2 (by omega)
  injection hA with hA
  subst hA
  have hlw : ad.block < W.heap.size := by omega
  have hm1 : m ≤ 9223372036854775807 := by simp only [maxLen] at hcm; omega
  have hc1 : c ≤ 9223372036854775807 := by simp only [maxLen] at hcm; omega
  have q0 := hc 0 _ rfl
  rw [add_zeroQ] at q0
  clear hc
  have HR := Lib.hid h
  clear h
  have hm5 : m - 9 = tot.length := by omega
  have hm6 : 9 ≤ m := by omega
  have d5 : decide ((m : Int) < 9) = false := decide_eq_false (by omega)
  have HM := Lib.hid hm
  clear hm
  by_cases hck : c = 9
  · go_enter Tryd.func31, Tryd.ntmps31
    go_wp2_with (first
      | (refine gate_dst (N := 50) rfl ?_
         refine wpList_fn rfl 13 _ _ rfl rfl (frombits64 n _) ?_)
      | (go_at_call 50
         go_must (
           (refine (getMuint64_any _ B _ ad 203 (n : Int) _ tot HR.out (by omega) (by omega) (by omega) (by omega)).mono ?_)
           rintro e w2 ⟨rfl, n2, rfl⟩
           rename_i hKK
           refine hKK _ _ ?_
           clear hKK)))
    all_goals (
      ((try simp only [Exit.inBlock, Exit.then]); refine bodyPost_ret (results_tmp3Q rfl _ _ _) rfl ?_)
      first
        | exact ⟨_, _, _, rfl, rfl, by omega, by omega, (Reads.tailQ (HR.out.drewN _) 9 rfl (by omega)), below_drewN (Below.refl _ _) _⟩
        | exact ⟨_, _, _, rfl, rfl, by omega, by omega, Reads.zeroQ (by omega), below_drewN (Below.refl _ _) _⟩)
  · go_enter Tryd.func31, Tryd.ntmps31
    go_wp2_with (first
      | (refine gate_dst (N := 50) rfl ?_
         refine wpList_fn rfl 13 _ _ rfl rfl (frombits64 n _) ?_)
      | (go_at_call 50
         go_must (
           (refine (getMuint64_any _ B _ ad 203 (n : Int) _ tot HR.out (by omega) (by omega) (by omega) (by omega)).mono ?_)
           rintro e w2 ⟨rfl, n2, rfl⟩
           rename_i hKK
           refine hKK _ _ ?_
           clear hKK)))
    all_goals (
      ((try simp only [Exit.inBlock, Exit.then]); refine bodyPost_ret (results_tmp3Q rfl _ _ _) rfl ?_)
      first
        | exact ⟨_, _, _, rfl, rfl, by omega, by omega, (Reads.tailQ (HR.out.drewN _) 9 rfl (by omega)), below_drewN (Below.refl _ _) _⟩
        | exact ⟨_, _, _, rfl, rfl, by omega, by omega, Reads.zeroQ (by omega), below_drewN (Below.refl _ _) _⟩)

set_option maxHeartbeats 4000000 in
set_option maxRecDepth 100000 in
theorem RF64_s (W : World) (B c : Nat) (ad : Addr) (n : Nat) (tot : List Int) (h : Reads W B 1 (some ad) (tot.length + 5) (bs ([202, (n : Int) / 16777216 % 256, (n : Int) / 65536 % 256, (n : Int) / 256 % 256, (n : Int) % 256] ++ tot))) (hmc : tot.length + 5 ≤ c) (hcm : c ≤ maxLen) (hB : B ≤ W.heap.size) (h1 : (n : Int) < 4294967296) (hs : tot.length < 4) :
    Calls Tryd.prog 31 #[.slice (some ad) (tot.length + 5) c] W (RFD (wideOk n) tot B W) := by
  have H32 := Lib.hid (RF32_ok W B c ad n tot h hmc hcm hB h1)
  obtain ⟨ad', hA, hlt, hc⟩ := h.2 (by omega)
  injection hA with hA
  subst hA
  have hlw : ad.block < W.heap.size := by omega
  have hm1 : tot.length + 5 ≤ 9223372036854775807 := by simp only [maxLen] at hcm; omega
  have hc1 : c ≤ 9223372036854775807 := by simp only [maxLen] at hcm; omega
  have q0 := hc 0 _ rfl
  rw [add_zeroQ] at q0
  clear hc
  have HR := Lib.hid h
  clear h
  have d9 : decide ((tot.length : Int) + 5 < 9) = true := decide_eq_true (by omega)
  have d5 : decide ((5 : Int) ≤ (tot.length : Int) + 5) = true := decide_eq_true (by omega)
  obtain ⟨G, nG, hG, hw⟩ := widen2 (P := Tryd.prog) 37 35 (by kernel_rfl) Tryd.underlying35 n
  have HW := Lib.hid hw
  clear hw
  go_enter Tryd.func31, Tryd.ntmps31
  go_wp2_with (first
    | (go_at_call 48
       go_must (
         (refine H32.out.mono ?_)
         rintro e w2 ⟨A2, c2, rfl, hl2, hm2, hr2, hb2⟩
         have HR2 := Lib.hid hr2
         have HB2 := Lib.hid hb2
         clear hr2 hb2)))
  all_goals (
    ((try simp only [Exit.inBlock, Exit.then]); refine bodyPost_ret (results_tmp3Q rfl _ _ _) rfl ?_)
    exact ⟨_, _, _, HW.out _, rfl, hl2, hm2, HR2.out.drewN _, below_drewN HB2.out _⟩)

set_option maxHeartbeats 4000000 in
set_option maxRecDepth 100000 in
theorem RF64_l (W : World) (B c : Nat) (ad : Addr) (n : Nat) (tot : List Int) (h : Reads W B 1 (some ad) (tot.length + 5) (bs ([202, (n : Int) / 16777216 % 256, (n : Int) / 65536 % 256, (n : Int) / 256 % 256, (n : Int) % 256] ++ tot))) (hmc : tot.length + 5 ≤ c) (hcm : c ≤ maxLen) (hB : B ≤ W.heap.size) (h1 : (n : Int) < 4294967296) (hs : 4 ≤ tot.length) :
    Calls Tryd.prog 31 #[.slice (some ad) (tot.length + 5) c] W (RFD (wideOk n) tot B W) := by
  have H32 := Lib.hid (RF32_ok W B c ad n tot h hmc hcm hB h1)
  obtain ⟨ad', hA, hlt, hc⟩ := h.2 (by omega)
  injection hA with hA
  subst hA
  have hlw : ad.block < W.heap.size := by omega
  have hm1 : tot.length + 5 ≤ 9223372036854775807 := by simp only [maxLen] at hcm; omega
  have hc1 : c ≤ 9223372036854775807 := by simp only [maxLen] at hcm; omega
  have q0 := hc 0 _ rfl
  rw [add_zeroQ] at q0
  clear hc
  have HR := Lib.hid h
  clear h
  have d9 : decide ((tot.length : Int) + 5 < 9) = false := decide_eq_false (by omega)
  obtain ⟨G, nG, hG, hw⟩ := widen2 (P := Tryd.prog) 37 35 (by kernel_rfl) Tryd.underlying35 n
  have HW := Lib.hid hw
  clear hw
  go_enter Tryd.func31, Tryd.ntmps31
  go_wp2_with (first
    | (go_at_call 48
       go_must (
         (refine H32.out.mono ?_)
         rintro e w2 ⟨A2, c2, rfl, hl2, hm2, hr2, hb2⟩
         have HR2 := Lib.hid hr2
         have HB2 := Lib.hid hb2
         clear hr2 hb2)))
  all_goals (
    ((try simp only [Exit.inBlock, Exit.then]); refine bodyPost_ret (results_tmp3Q rfl _ _ _) rfl ?_)
    exact ⟨_, _, _, HW.out _, rfl, hl2, hm2, HR2.out.drewN _, below_drewN HB2.out _⟩)

set_option maxHeartbeats 4000000 in
set_option maxRecDepth 100000 in
theorem RF64_none (W : World) (c m : Nat) (A : Option Addr) (hm : m < 5) (ts : TypeId) (vs : Value) (hsh : W.cell? ⟨1, 0, none⟩ = some (.iface ts vs)) :
    Calls Tryd.prog 31 #[.slice A m c] W (RFE W) := by
  have d9 : decide ((m : Int) < 9) = true := decide_eq_true (by omega)
  have d5 : decide ((5 : Int) ≤ (m : Int)) = false := decide_eq_false (by omega)
  go_enter Tryd.func31, Tryd.ntmps31
  go_wp2
  all_goals (
    ((try simp only [Exit.inBlock, Exit.then]); refine bodyPost_ret (results_tmp3Q rfl _ _ _) rfl ?_)
    exact ⟨⟨_, _, _, _, _, _, rfl⟩, Below.refl _ _⟩)

set_option maxHeartbeats 4000000 in
set_option maxRecDepth 100000 in
theorem RF64_some (W : World) (B c : Nat) (ad : Addr) (b : Int) (tot : List Int) (h : Reads W B 1 (some ad) (tot.length + 1) (bs ([b] ++ tot))) (hmc : tot.length + 1 ≤ c) (hcm : c ≤ maxLen) (hB : B ≤ W.heap.size) (h5 : 4 ≤ tot.length) (h9 : tot.length < 8) (hb : b ≠ 202) (ts : TypeId) (vs : Value) (hsh : W.cell? ⟨1, 0, none⟩ = some (.iface ts vs)) :
    Calls Tryd.prog 31 #[.slice (some ad) (tot.length + 1) c] W (RFE W) := by
  obtain ⟨ad', hA, hlt, hc⟩ := h.2 (by omega)
  injection hA with hA
  subst hA
  have hlw : ad.block < W.heap.size := by omega
  have hm1 : tot.length + 1 ≤ 9223372036854775807 := by simp only [maxLen] at hcm; omega
  have hc1 : c ≤ 9223372036854775807 := by simp only [maxLen] at hcm; omega
  have q0 := hc 0 _ rfl
  rw [add_zeroQ] at q0
  clear hc
  have HR := Lib.hid h
  clear h
  have d9 : decide ((tot.length : Int) + 1 < 9) = true := decide_eq_true (by omega)
  have d5 : decide ((5 : Int) ≤ (tot.length : Int) + 1) = true := decide_eq_true (by omega)
  have d2 : (b == 202) = false := by simp; omega
  have e2 : decide (b = 202) = false := decide_eq_false (by omega)
  go_enter Tryd.func31, Tryd.ntmps31
  go_wp2
  all_goals (
    ((try simp only [Exit.inBlock, Exit.then]); refine bodyPost_ret (results_tmp3Q rfl _ _ _) rfl ?_)
    exact ⟨⟨_, _, _, _, _, _, rfl⟩, Below.refl _ _⟩)

set_option maxHeartbeats 4000000 in
set_option maxRecDepth 100000 in
theorem RF64_bad (W : World) (B c : Nat) (ad : Addr) (b : Int) (tot : List Int) (h : Reads W B 1 (some ad) (tot.length + 1) (bs ([b] ++ tot))) (hmc : tot.length + 1 ≤ c) (hcm : c ≤ maxLen) (hB : B ≤ W.heap.size) (h9 : 8 ≤ tot.length) (hb0 : 0 ≤ b) (hb1 : b < 256) (hb : b ≠ 202) (hb3 : b ≠ 203) :
    Calls Tryd.prog 31 #[.slice (some ad) (tot.length + 1) c] W (RFE W) := by
  obtain ⟨ad', hA, hlt, hc⟩ := h.2 (by omega)
  injection hA with hA
  subst hA
  have hlw : ad.block < W.heap.size := by omega
  have hm1 : tot.length + 1 ≤ 9223372036854775807 := by simp only [maxLen] at hcm; omega
  have hc1 : c ≤ 9223372036854775807 := by simp only [maxLen] at hcm; omega
  have q0 := hc 0 _ rfl
  rw [add_zeroQ] at q0
  clear hc
  have HR := Lib.hid h
  clear h
  have d9 : decide ((tot.length : Int) + 1 < 9) = false := decide_eq_false (by omega)
  have d2 : (b == 202) = false := by simp; omega
  have e2 : decide (b = 202) = false := decide_eq_false (by omega)
  have d3 : (b == 203) = false := by simp; omega
  have e3 : decide (b = 203) = false := decide_eq_false (by omega)
  go_enter Tryd.func31, Tryd.ntmps31
  go_wp2_with (first
    | (go_at_call 49
       go_must (
         (refine (badPrefix_any _ _ _ (by omega) (by omega)).mono ?_)
         rintro e w2 ⟨⟨t, v, rfl⟩, hb2⟩
         have HB2 := Lib.hid hb2
         clear hb2)))
  all_goals (
    ((try simp only [Exit.inBlock, Exit.then]); refine bodyPost_ret (results_tmp3Q rfl _ _ _) rfl ?_)
    exact ⟨⟨_, _, _, _, _, _, rfl⟩, HB2.out⟩)

set_option maxHeartbeats 4000000 in
set_option maxRecDepth 100000 in
theorem GF_ok (W : World) (m c : Nat) (A : Option Addr) (p : Nat → Prop) (tot : List Int) (B : Nat) (hB : B ≤ W.heap.size) (ht : tot.length ≤ 100) (h : Calls Tryd.prog 31 #[.slice A m c] W (RFD p tot B W)) :
    Calls Tryd.prog 10 #[.slice A m c] W (GFD p tot W) := by
  have H := Lib.hid h
  clear h
  have hbt := fun x W => bits64 x W
  go_enter Tryd.func10, Tryd.ntmps10
  go_wp2_with (first
    | (go_at_call 31
       go_must (
         (refine H.out.mono ?_)
         rintro e w1 ⟨x, A1, c1, hp, rfl, hl1, hm1, hr1, hb1⟩
         have HR1 := Lib.hid hr1
         have HB1 := Lib.hid hb1
         have HP := Lib.hid hp
         clear hr1 hb1 hp))
    | (go_at_call 32
       go_must (
         (refine (copied_b _ A1 c1 tot (HR1.out.more (Nat.le_trans hB HB1.out.size)) (by omega)).mono ?_)
         rintro e w5 ⟨g5, cs5, rfl, hb5, hl5, hm5, ht5, hg5, hbel5⟩
         have hr5 : Reads w5 w5.heap.size 1 (some ⟨g5, 0, none⟩) tot.length (bs tot) := by
           have hr := (hb5.reads 0 tot.length (by omega)).more (show g5 + 1 ≤ w5.heap.size from hb5.lt)
           rw [List.drop_zero, ht5] at hr
           exact hr
         have HR5 := Lib.hid hr5
         have HB5 : Hid (Below W.heap.size W w5) := HB1.out.trans (hbel5.mono HB1.out.size)
         clear hb5 ht5 hr5 hbel5)))
  all_goals (
    ((try simp only [Exit.inBlock, Exit.then]); refine bodyPost_ret (results_tmp3Q rfl _ _ _) rfl ?_)
    exact ⟨x, _, _, HP.out, rfl, HR5.out, HB5.out⟩)

set_option maxHeartbeats 4000000 in
set_option maxRecDepth 100000 in
theorem GF_no (W : World) (m c : Nat) (A : Option Addr) (h : Calls Tryd.prog 31 #[.slice A m c] W (RFE W)) :
    Calls Tryd.prog 10 #[.slice A m c] W (GE .u64 W) := by
  have H := Lib.hid h
  clear h
  go_enter Tryd.func10, Tryd.ntmps10
  go_wp2_with (first
    | (go_at_call 31
       go_must (
         (refine H.out.mono ?_)
         rintro e w1 ⟨⟨x, A1, m1, c1, t, v, rfl⟩, hb1⟩
         have HB1 := Lib.hid hb1
         clear hb1)))
  all_goals (
    ((try simp only [Exit.inBlock, Exit.then]); refine bodyPost_ret (results_tmp3Q rfl _ _ _) rfl ?_)
    exact ⟨rfl, HB1.out⟩)
end Go.Proofs.YtlpnaifagiddlaaDoor
