/- ReadUint64Bytes at every form, at nothing, at a byte that begins no integer. PRINTED by wip/genua.py. -/
import Derived.Test.YtfhaddnacdjpoaaDoorPs
import Derived.Test.YtfhaddnacdjpoaaDoorPt
namespace Go.Proofs.YtfhaddnacdjpoaaDoor
open Go.RowKit
set_option linter.unusedVariables false

theorem ofInt_wrap16 (y : Int) : BitVec.ofInt 16 (IntKind.i16.wrap y) = BitVec.ofInt 16 y := by
  apply BitVec.eq_of_toNat_eq
  simp only [BitVec.toNat_ofInt]
  congr 1
  simp [IntKind.wrap, IntKind.bits, IntKind.signed]
  split <;> omega
theorem i16_or8 (x b : Int) (h0 : 0 ≤ x) (h1 : x < 256) (h2 : 0 ≤ b) (h3 : b < 256) : bits .or .i16 (IntKind.i16.wrap (x * 256)) b = IntKind.i16.wrap (x * 256 + b) := by
  show IntKind.i16.wrap ((BitVec.ofInt 16 (IntKind.i16.wrap (x * 256)) ||| BitVec.ofInt 16 b).toNat : Int) = _
  rw [ofInt_wrap16]
  have e : IntKind.u16.wrap ((BitVec.ofInt 16 (x * 256) ||| BitVec.ofInt 16 b).toNat : Int) = x * 256 + b := by
    show bits .or .u16 (x * 256) b = _
    rw [u16_or _ _ (by omega) (by omega) h2 (by omega), Nat.or_comm, nat_joinQ 8 _ _ (by omega) (by omega)]
    omega
  have hl := (BitVec.ofInt 16 (x * 256) ||| BitVec.ofInt 16 b).isLt
  rw [IntKind.wrap_u16] at e
  congr 1
  omega

set_option maxHeartbeats 4000000 in
set_option maxRecDepth 100000 in
theorem ReadUint64Bytes_fix (W : World) (B c : Nat) (ad : Addr) (n : Int) (tot : List Int) (h : Reads W B 1 (some ad) (tot.length + 1) (bs ([n] ++ tot))) (hmc : tot.length + 1 ≤ c) (hcm : c ≤ maxLen) (hB : B ≤ W.heap.size) (h0 : 0 ≤ n) (h1 : n < 128) :
    Calls Tryd.prog 37 #[.slice (some ad) (tot.length + 1) c] W (RB .u64 n tot B W) := by
  obtain ⟨ad', hA, hlt, hc⟩ := h.2 (by omega)
  injection hA with hA
  subst hA
  have hlw : ad.block < W.heap.size := by omega
  have hm1 : tot.length + 1 ≤ 9223372036854775807 := by simp only [maxLen] at hcm; omega
  have hc1 : c ≤ 9223372036854775807 := by simp only [maxLen] at hcm; omega
  have q0 := hc 0 _ rfl
  rw [add_zeroQ] at q0
  clear hc
  have HR := Lib.hid h
  clear h
  go_enter Tryd.func37, Tryd.ntmps37
  go_wp2_with (first
    | (go_at_call 51
       go_must (
         (refine (isfix_yes _ _ (by omega) (by omega)).mono ?_)
         rintro e w' ⟨rfl, rfl⟩))
    | (go_at_call 52
       go_must (
         (refine (rfix_calls _ _).mono ?_)
         rintro e w' ⟨rfl, rfl⟩)))
  all_goals (
    ((try simp only [Exit.inBlock, Exit.then]); refine bodyPost_ret (results_tmp3Q rfl _ _ _) rfl ?_)
    first
      | exact ⟨_, _, rfl, by omega, by omega, (Reads.tailQ HR.out 1 rfl (by omega)), (Below.refl _ _)⟩
      | exact ⟨_, _, rfl, by omega, by omega, Reads.zeroQ (by omega), (Below.refl _ _)⟩)

set_option maxHeartbeats 4000000 in
set_option maxRecDepth 100000 in
theorem ReadUint64Bytes_neg (W : World) (B c : Nat) (ad : Addr) (n : Int) (tot : List Int) (h : Reads W B 1 (some ad) (tot.length + 1) (bs ([n + 256] ++ tot))) (hmc : tot.length + 1 ≤ c) (hcm : c ≤ maxLen) (hB : B ≤ W.heap.size) (h0 : -32 ≤ n) (h1 : n < 0) :
    Calls Tryd.prog 37 #[.slice (some ad) (tot.length + 1) c] W (RE .u64 W) := by
  obtain ⟨ad', hA, hlt, hc⟩ := h.2 (by omega)
  injection hA with hA
  subst hA
  have hlw : ad.block < W.heap.size := by omega
  have hm1 : tot.length + 1 ≤ 9223372036854775807 := by simp only [maxLen] at hcm; omega
  have hc1 : c ≤ 9223372036854775807 := by simp only [maxLen] at hcm; omega
  have q0 := hc 0 _ rfl
  rw [add_zeroQ] at q0
  clear hc
  have HR := Lib.hid h
  clear h
  go_enter Tryd.func37, Tryd.ntmps37
  go_wp2_with (first
    | (go_at_call 51
       go_must (
         (refine (isfix_no _ _ (by omega) (by omega)).mono ?_)
         rintro e w' ⟨rfl, rfl⟩))
    | (go_at_call 54
       go_must (
         (refine (isnfix_calls _ _ (by omega) (by omega)).mono ?_)
         rintro e w' ⟨rfl, rfl⟩))
    | (go_at_call 55
       go_must (
         (refine (rnfix_calls _ _ (by omega) (by omega)).mono ?_)
         rintro e w' ⟨rfl, rfl⟩)))
  all_goals (
    ((try simp only [Exit.inBlock, Exit.then]); refine bodyPost_ret (results_tmp3Q rfl _ _ _) rfl ?_)
    exact ⟨⟨_, _, rfl⟩, Below.refl _ _⟩)

set_option maxHeartbeats 4000000 in
set_option maxRecDepth 100000 in
theorem ReadUint64Bytes_u1 (W : World) (B c : Nat) (ad : Addr) (n : Int) (tot : List Int) (h : Reads W B 1 (some ad) (tot.length + 2) (bs ([204, n] ++ tot))) (hmc : tot.length + 2 ≤ c) (hcm : c ≤ maxLen) (hB : B ≤ W.heap.size) (h0 : 0 ≤ n) (h1 : n < 256) :
    Calls Tryd.prog 37 #[.slice (some ad) (tot.length + 2) c] W (RB .u64 n tot B W) := by
  obtain ⟨ad', hA, hlt, hc⟩ := h.2 (by omega)
  injection hA with hA
  subst hA
  have hlw : ad.block < W.heap.size := by omega
  have hm1 : tot.length + 2 ≤ 9223372036854775807 := by simp only [maxLen] at hcm; omega
  have hc1 : c ≤ 9223372036854775807 := by simp only [maxLen] at hcm; omega
  have q0 := hc 0 _ rfl
  rw [add_zeroQ] at q0
  have q1 : W.cell? ⟨ad.block, ad.off + 1, none⟩ = some _ := hc 1 _ rfl
  clear hc
  have HR := Lib.hid h
  clear h
  go_enter Tryd.func37, Tryd.ntmps37
  go_wp2_with (first
    | (go_at_call 51
       go_must (
         (refine (isfix_no _ _ (by omega) (by omega)).mono ?_)
         rintro e w' ⟨rfl, rfl⟩)))
  all_goals (
    ((try simp only [Exit.inBlock, Exit.then]); refine bodyPost_ret (results_tmp3Q rfl _ _ _) rfl ?_)
    first
      | exact ⟨_, _, rfl, by omega, by omega, (Reads.tailQ HR.out 2 rfl (by omega)), (Below.refl _ _)⟩
      | exact ⟨_, _, rfl, by omega, by omega, Reads.zeroQ (by omega), (Below.refl _ _)⟩)

set_option maxHeartbeats 4000000 in
set_option maxRecDepth 100000 in
theorem ReadUint64Bytes_i1 (W : World) (B c : Nat) (ad : Addr) (n : Int) (tot : List Int) (h : Reads W B 1 (some ad) (tot.length + 2) (bs ([208, n] ++ tot))) (hmc : tot.length + 2 ≤ c) (hcm : c ≤ maxLen) (hB : B ≤ W.heap.size) (h0 : 0 ≤ n) (h1 : n < 128) :
    Calls Tryd.prog 37 #[.slice (some ad) (tot.length + 2) c] W (RB .u64 n tot B W) := by
  obtain ⟨ad', hA, hlt, hc⟩ := h.2 (by omega)
  injection hA with hA
  subst hA
  have hlw : ad.block < W.heap.size := by omega
  have hm1 : tot.length + 2 ≤ 9223372036854775807 := by simp only [maxLen] at hcm; omega
  have hc1 : c ≤ 9223372036854775807 := by simp only [maxLen] at hcm; omega
  have q0 := hc 0 _ rfl
  rw [add_zeroQ] at q0
  have q1 : W.cell? ⟨ad.block, ad.off + 1, none⟩ = some _ := hc 1 _ rfl
  have hw : IntKind.i8.wrap n = n := by simp [IntKind.wrap, IntKind.bits, IntKind.signed]; omega
  have hlt0 : decide (n < 0) = false := decide_eq_false (by omega)
  clear hc
  have HR := Lib.hid h
  clear h
  go_enter Tryd.func37, Tryd.ntmps37
  go_wp2_with (first
    | (go_at_call 51
       go_must (
         (refine (isfix_no _ _ (by omega) (by omega)).mono ?_)
         rintro e w' ⟨rfl, rfl⟩)))
  all_goals (
    ((try simp only [Exit.inBlock, Exit.then]); refine bodyPost_ret (results_tmp3Q rfl _ _ _) rfl ?_)
    first
      | exact ⟨_, _, rfl, by omega, by omega, (Reads.tailQ HR.out 2 rfl (by omega)), (Below.refl _ _)⟩
      | exact ⟨_, _, rfl, by omega, by omega, Reads.zeroQ (by omega), (Below.refl _ _)⟩)

set_option maxHeartbeats 4000000 in
set_option maxRecDepth 100000 in
theorem ReadUint64Bytes_n1 (W : World) (B c : Nat) (ad : Addr) (n : Int) (tot : List Int) (h : Reads W B 1 (some ad) (tot.length + 2) (bs ([208, n + 256] ++ tot))) (hmc : tot.length + 2 ≤ c) (hcm : c ≤ maxLen) (hB : B ≤ W.heap.size) (h0 : -128 ≤ n) (h1 : n < 0) :
    Calls Tryd.prog 37 #[.slice (some ad) (tot.length + 2) c] W (RE .u64 W) := by
  obtain ⟨ad', hA, hlt, hc⟩ := h.2 (by omega)
  injection hA with hA
  subst hA
  have hlw : ad.block < W.heap.size := by omega
  have hm1 : tot.length + 2 ≤ 9223372036854775807 := by simp only [maxLen] at hcm; omega
  have hc1 : c ≤ 9223372036854775807 := by simp only [maxLen] at hcm; omega
  have q0 := hc 0 _ rfl
  rw [add_zeroQ] at q0
  have q1 : W.cell? ⟨ad.block, ad.off + 1, none⟩ = some _ := hc 1 _ rfl
  have hw : IntKind.i8.wrap (n + 256) = n := by simp [IntKind.wrap, IntKind.bits, IntKind.signed]; omega
  have hlt0 : decide (n < 0) = true := decide_eq_true (by omega)
  clear hc
  have HR := Lib.hid h
  clear h
  go_enter Tryd.func37, Tryd.ntmps37
  go_wp2_with (first
    | (go_at_call 51
       go_must (
         (refine (isfix_no _ _ (by omega) (by omega)).mono ?_)
         rintro e w' ⟨rfl, rfl⟩)))
  all_goals (
    ((try simp only [Exit.inBlock, Exit.then]); refine bodyPost_ret (results_tmp3Q rfl _ _ _) rfl ?_)
    exact ⟨⟨_, _, rfl⟩, Below.refl _ _⟩)

set_option maxHeartbeats 4000000 in
set_option maxRecDepth 100000 in
theorem ReadUint64Bytes_i2 (W : World) (B c : Nat) (ad : Addr) (n : Int) (tot : List Int) (h : Reads W B 1 (some ad) (tot.length + 3) (bs ([209, n / 256 % 256, n % 256] ++ tot))) (hmc : tot.length + 3 ≤ c) (hcm : c ≤ maxLen) (hB : B ≤ W.heap.size) (h0 : 0 ≤ n) (h1 : n < 32768) :
    Calls Tryd.prog 37 #[.slice (some ad) (tot.length + 3) c] W (RB .u64 n tot B W) := by
  obtain ⟨ad', hA, hlt, hc⟩ := h.2 (by omega)
  injection hA with hA
  subst hA
  have hlw : ad.block < W.heap.size := by omega
  have hm1 : tot.length + 3 ≤ 9223372036854775807 := by simp only [maxLen] at hcm; omega
  have hc1 : c ≤ 9223372036854775807 := by simp only [maxLen] at hcm; omega
  have q0 := hc 0 _ rfl
  rw [add_zeroQ] at q0
  have q1 : W.cell? ⟨ad.block, ad.off + 1, none⟩ = some _ := hc 1 _ rfl
  have q2 : W.cell? ⟨ad.block, ad.off + 2, none⟩ = some _ := hc 2 _ rfl
  obtain ⟨a1, ha1⟩ : ∃ a1, a1 = n / 256 % 256 := ⟨_, rfl⟩
  obtain ⟨a2, ha2⟩ : ∃ a2, a2 = n % 256 := ⟨_, rfl⟩
  have hx0 : 0 ≤ a1 ∧ a1 < 256 := by omega
  have hx1 : 0 ≤ a2 ∧ a2 < 256 := by omega
  have ho := i16_or8 a1 a2 hx0.1 hx0.2 hx1.1 hx1.2
  have hw1 : IntKind.i16.wrap a1 = a1 := by simp [IntKind.wrap, IntKind.bits, IntKind.signed]; omega
  have hw2 : IntKind.i16.wrap a2 = a2 := by simp [IntKind.wrap, IntKind.bits, IntKind.signed]; omega
  have hsum : IntKind.i16.wrap (a1 * 256 + a2) = n := by simp [IntKind.wrap, IntKind.bits, IntKind.signed]; omega
  rw [hsum] at ho
  have hlt0 : decide (n < 0) = false := decide_eq_false (by omega)
  rw [← ha1] at q1
  rw [← ha2] at q2
  clear hsum ha1 ha2
  clear hc
  have HR := Lib.hid h
  clear h
  go_enter Tryd.func37, Tryd.ntmps37
  go_wp2_with (first
    | (go_at_call 51
       go_must (
         (refine (isfix_no _ _ (by omega) (by omega)).mono ?_)
         rintro e w' ⟨rfl, rfl⟩)))
  go_quiet (fail)
  go_wp2
  all_goals (
    ((try simp only [Exit.inBlock, Exit.then]); refine bodyPost_ret (results_tmp3Q rfl _ _ _) rfl ?_)
    first
      | exact ⟨_, _, rfl, by omega, by omega, (Reads.tailQ (HR.out.drewN _) 3 rfl (by omega)), below_drewN (Below.refl _ _) _⟩
      | exact ⟨_, _, rfl, by omega, by omega, Reads.zeroQ (by omega), below_drewN (Below.refl _ _) _⟩)

set_option maxHeartbeats 4000000 in
set_option maxRecDepth 100000 in
theorem ReadUint64Bytes_n2 (W : World) (B c : Nat) (ad : Addr) (n : Int) (tot : List Int) (h : Reads W B 1 (some ad) (tot.length + 3) (bs ([209, n / 256 % 256, n % 256] ++ tot))) (hmc : tot.length + 3 ≤ c) (hcm : c ≤ maxLen) (hB : B ≤ W.heap.size) (h0 : -32768 ≤ n) (h1 : n < 0) :
    Calls Tryd.prog 37 #[.slice (some ad) (tot.length + 3) c] W (RE .u64 W) := by
  obtain ⟨ad', hA, hlt, hc⟩ := h.2 (by omega)
  injection hA with hA
  subst hA
  have hlw : ad.block < W.heap.size := by omega
  have hm1 : tot.length + 3 ≤ 9223372036854775807 := by simp only [maxLen] at hcm; omega
  have hc1 : c ≤ 9223372036854775807 := by simp only [maxLen] at hcm; omega
  have q0 := hc 0 _ rfl
  rw [add_zeroQ] at q0
  have q1 : W.cell? ⟨ad.block, ad.off + 1, none⟩ = some _ := hc 1 _ rfl
  have q2 : W.cell? ⟨ad.block, ad.off + 2, none⟩ = some _ := hc 2 _ rfl
  obtain ⟨a1, ha1⟩ : ∃ a1, a1 = n / 256 % 256 := ⟨_, rfl⟩
  obtain ⟨a2, ha2⟩ : ∃ a2, a2 = n % 256 := ⟨_, rfl⟩
  have hx0 : 0 ≤ a1 ∧ a1 < 256 := by omega
  have hx1 : 0 ≤ a2 ∧ a2 < 256 := by omega
  have ho := i16_or8 a1 a2 hx0.1 hx0.2 hx1.1 hx1.2
  have hw1 : IntKind.i16.wrap a1 = a1 := by simp [IntKind.wrap, IntKind.bits, IntKind.signed]; omega
  have hw2 : IntKind.i16.wrap a2 = a2 := by simp [IntKind.wrap, IntKind.bits, IntKind.signed]; omega
  have hsum : IntKind.i16.wrap (a1 * 256 + a2) = n := by simp [IntKind.wrap, IntKind.bits, IntKind.signed]; omega
  rw [hsum] at ho
  have hlt0 : decide (n < 0) = true := decide_eq_true (by omega)
  rw [← ha1] at q1
  rw [← ha2] at q2
  clear hsum ha1 ha2
  clear hc
  have HR := Lib.hid h
  clear h
  go_enter Tryd.func37, Tryd.ntmps37
  go_wp2_with (first
    | (go_at_call 51
       go_must (
         (refine (isfix_no _ _ (by omega) (by omega)).mono ?_)
         rintro e w' ⟨rfl, rfl⟩)))
  go_quiet (fail)
  go_wp2
  all_goals (
    ((try simp only [Exit.inBlock, Exit.then]); refine bodyPost_ret (results_tmp3Q rfl _ _ _) rfl ?_)
    exact ⟨⟨_, _, rfl⟩, below_drewN (Below.refl _ _) _⟩)

set_option maxHeartbeats 4000000 in
set_option maxRecDepth 100000 in
theorem ReadUint64Bytes_u2 (W : World) (B c : Nat) (ad : Addr) (n : Int) (tot : List Int) (h : Reads W B 1 (some ad) (tot.length + 3) (bs ([205, n / 256 % 256, n % 256] ++ tot))) (hmc : tot.length + 3 ≤ c) (hcm : c ≤ maxLen) (hB : B ≤ W.heap.size) (h0 : 0 ≤ n) (h1 : n < 65536) :
    Calls Tryd.prog 37 #[.slice (some ad) (tot.length + 3) c] W (RB .u64 n tot B W) := by
  obtain ⟨ad', hA, hlt, hc⟩ := h.2 (by omega)
  injection hA with hA
  subst hA
  have hlw : ad.block < W.heap.size := by omega
  have hm1 : tot.length + 3 ≤ 9223372036854775807 := by simp only [maxLen] at hcm; omega
  have hc1 : c ≤ 9223372036854775807 := by simp only [maxLen] at hcm; omega
  have q0 := hc 0 _ rfl
  rw [add_zeroQ] at q0
  have hld : ∀ w, (loadVar 100 ⟨1, 0, none⟩).run Tryd.prog w = .ok (.agg #[]) w := fun w => by kernel_rfl
  obtain ⟨u, hu⟩ : ∃ u, u = n := ⟨_, rfl⟩
  have HT : Hid (Reads W B 1 (some ⟨ad.block, ad.off + 1, none⟩) (tot.length + 2) (bs ([u / 256 % 256, u % 256] ++ tot))) := by
    have ht := Reads.tailQ (e := [205]) (tot := [n / 256 % 256, n % 256] ++ tot) h 1 rfl (by omega)
    rw [show n / 256 % 256 = u / 256 % 256 by omega] at ht
    rw [show n % 256 = u % 256 by omega] at ht
    rw [show ([u / 256 % 256, u % 256] ++ tot).length = tot.length + 2 by simp] at ht
    exact ht
  have hur : 0 ≤ u ∧ u < 65536 := by omega
  obtain ⟨hur0, hur1⟩ := hur
  have hun : u = n := hu
  clear hu
  clear hc
  have HR := Lib.hid h
  clear h
  go_enter Tryd.func37, Tryd.ntmps37
  go_wp2_with (first
    | (go_at_call 51
       go_must (
         (refine (isfix_no _ _ (by omega) (by omega)).mono ?_)
         rintro e w' ⟨rfl, rfl⟩))
    | (go_at_call 45
       go_must (
         (refine (beQ16 _ B _ _ _ u tot HT.out (by omega) (by omega) (by omega) (by omega)).mono ?_)
         rintro e w2 ⟨rfl, n2, rfl⟩)))
  all_goals (
    ((try simp only [Exit.inBlock, Exit.then]); refine bodyPost_ret (results_tmp3Q rfl _ _ _) rfl ?_)
    first
      | exact ⟨_, _, rfl, by omega, by omega, (Reads.tailQ (((HR.out.alloc hB _).drewN _)) 3 rfl (by omega)), (below_drewN ((Below.refl _ _).alloc (Nat.le_refl _) _) _)⟩
      | exact ⟨_, _, rfl, by omega, by omega, Reads.zeroQ (by omega), (below_drewN ((Below.refl _ _).alloc (Nat.le_refl _) _) _)⟩)

set_option maxHeartbeats 4000000 in
set_option maxRecDepth 100000 in
theorem ReadUint64Bytes_u4 (W : World) (B c : Nat) (ad : Addr) (n : Int) (tot : List Int) (h : Reads W B 1 (some ad) (tot.length + 5) (bs ([206, n / 16777216 % 256, n / 65536 % 256, n / 256 % 256, n % 256] ++ tot))) (hmc : tot.length + 5 ≤ c) (hcm : c ≤ maxLen) (hB : B ≤ W.heap.size) (h0 : 0 ≤ n) (h1 : n < 4294967296) :
    Calls Tryd.prog 37 #[.slice (some ad) (tot.length + 5) c] W (RB .u64 n tot B W) := by
  obtain ⟨ad', hA, hlt, hc⟩ := h.2 (by omega)
  injection hA with hA
  subst hA
  have hlw : ad.block < W.heap.size := by omega
  have hm1 : tot.length + 5 ≤ 9223372036854775807 := by simp only [maxLen] at hcm; omega
  have hc1 : c ≤ 9223372036854775807 := by simp only [maxLen] at hcm; omega
  have q0 := hc 0 _ rfl
  rw [add_zeroQ] at q0
  have hld : ∀ w, (loadVar 100 ⟨1, 0, none⟩).run Tryd.prog w = .ok (.agg #[]) w := fun w => by kernel_rfl
  obtain ⟨u, hu⟩ : ∃ u, u = n := ⟨_, rfl⟩
  have HT : Hid (Reads W B 1 (some ⟨ad.block, ad.off + 1, none⟩) (tot.length + 4) (bs ([u / 16777216 % 256, u / 65536 % 256, u / 256 % 256, u % 256] ++ tot))) := by
    have ht := Reads.tailQ (e := [206]) (tot := [n / 16777216 % 256, n / 65536 % 256, n / 256 % 256, n % 256] ++ tot) h 1 rfl (by omega)
    rw [show n / 16777216 % 256 = u / 16777216 % 256 by omega] at ht
    rw [show n / 65536 % 256 = u / 65536 % 256 by omega] at ht
    rw [show n / 256 % 256 = u / 256 % 256 by omega] at ht
    rw [show n % 256 = u % 256 by omega] at ht
    rw [show ([u / 16777216 % 256, u / 65536 % 256, u / 256 % 256, u % 256] ++ tot).length = tot.length + 4 by simp] at ht
    exact ht
  have hur : 0 ≤ u ∧ u < 4294967296 := by omega
  obtain ⟨hur0, hur1⟩ := hur
  have hun : u = n := hu
  clear hu
  clear hc
  have HR := Lib.hid h
  clear h
  go_enter Tryd.func37, Tryd.ntmps37
  go_wp2_with (first
    | (go_at_call 51
       go_must (
         (refine (isfix_no _ _ (by omega) (by omega)).mono ?_)
         rintro e w' ⟨rfl, rfl⟩))
    | (go_at_call 46
       go_must (
         (refine (beQ32 _ B _ _ _ u tot HT.out (by omega) (by omega) (by omega) (by omega)).mono ?_)
         rintro e w2 ⟨rfl, n2, rfl⟩)))
  all_goals (
    ((try simp only [Exit.inBlock, Exit.then]); refine bodyPost_ret (results_tmp3Q rfl _ _ _) rfl ?_)
    first
      | exact ⟨_, _, rfl, by omega, by omega, (Reads.tailQ (((HR.out.alloc hB _).drewN _)) 5 rfl (by omega)), (below_drewN ((Below.refl _ _).alloc (Nat.le_refl _) _) _)⟩
      | exact ⟨_, _, rfl, by omega, by omega, Reads.zeroQ (by omega), (below_drewN ((Below.refl _ _).alloc (Nat.le_refl _) _) _)⟩)

set_option maxHeartbeats 4000000 in
set_option maxRecDepth 100000 in
theorem ReadUint64Bytes_i4 (W : World) (B c : Nat) (ad : Addr) (n : Int) (tot : List Int) (h : Reads W B 1 (some ad) (tot.length + 5) (bs ([210, n / 16777216 % 256, n / 65536 % 256, n / 256 % 256, n % 256] ++ tot))) (hmc : tot.length + 5 ≤ c) (hcm : c ≤ maxLen) (hB : B ≤ W.heap.size) (h0 : 0 ≤ n) (h1 : n < 2147483648) :
    Calls Tryd.prog 37 #[.slice (some ad) (tot.length + 5) c] W (RB .u64 n tot B W) := by
  obtain ⟨ad', hA, hlt, hc⟩ := h.2 (by omega)
  injection hA with hA
  subst hA
  have hlw : ad.block < W.heap.size := by omega
  have hm1 : tot.length + 5 ≤ 9223372036854775807 := by simp only [maxLen] at hcm; omega
  have hc1 : c ≤ 9223372036854775807 := by simp only [maxLen] at hcm; omega
  have q0 := hc 0 _ rfl
  rw [add_zeroQ] at q0
  have hld : ∀ w, (loadVar 100 ⟨1, 0, none⟩).run Tryd.prog w = .ok (.agg #[]) w := fun w => by kernel_rfl
  obtain ⟨u, hu⟩ : ∃ u, u = n % 4294967296 := ⟨_, rfl⟩
  have HT : Hid (Reads W B 1 (some ⟨ad.block, ad.off + 1, none⟩) (tot.length + 4) (bs ([u / 16777216 % 256, u / 65536 % 256, u / 256 % 256, u % 256] ++ tot))) := by
    have ht := Reads.tailQ (e := [210]) (tot := [n / 16777216 % 256, n / 65536 % 256, n / 256 % 256, n % 256] ++ tot) h 1 rfl (by omega)
    rw [show n / 16777216 % 256 = u / 16777216 % 256 by omega] at ht
    rw [show n / 65536 % 256 = u / 65536 % 256 by omega] at ht
    rw [show n / 256 % 256 = u / 256 % 256 by omega] at ht
    rw [show n % 256 = u % 256 by omega] at ht
    rw [show ([u / 16777216 % 256, u / 65536 % 256, u / 256 % 256, u % 256] ++ tot).length = tot.length + 4 by simp] at ht
    exact ht
  have hwu : IntKind.i32.wrap u = n := by rw [hu]; simp [IntKind.wrap, IntKind.bits, IntKind.signed]; omega
  have hur : 0 ≤ u ∧ u < 4294967296 := by omega
  obtain ⟨hur0, hur1⟩ := hur
  have hlt0 : decide (n < 0) = false := decide_eq_false (by omega)
  clear hu
  clear hc
  have HR := Lib.hid h
  clear h
  go_enter Tryd.func37, Tryd.ntmps37
  go_wp2_with (first
    | (go_at_call 51
       go_must (
         (refine (isfix_no _ _ (by omega) (by omega)).mono ?_)
         rintro e w' ⟨rfl, rfl⟩))
    | (go_at_call 46
       go_must (
         (refine (beQ32 _ B _ _ _ u tot HT.out (by omega) (by omega) (by omega) (by omega)).mono ?_)
         rintro e w2 ⟨rfl, n2, rfl⟩)))
  all_goals (
    ((try simp only [Exit.inBlock, Exit.then]); refine bodyPost_ret (results_tmp3Q rfl _ _ _) rfl ?_)
    first
      | exact ⟨_, _, rfl, by omega, by omega, (Reads.tailQ (((HR.out.alloc hB _).drewN _)) 5 rfl (by omega)), (below_drewN ((Below.refl _ _).alloc (Nat.le_refl _) _) _)⟩
      | exact ⟨_, _, rfl, by omega, by omega, Reads.zeroQ (by omega), (below_drewN ((Below.refl _ _).alloc (Nat.le_refl _) _) _)⟩)

set_option maxHeartbeats 4000000 in
set_option maxRecDepth 100000 in
theorem ReadUint64Bytes_n4 (W : World) (B c : Nat) (ad : Addr) (n : Int) (tot : List Int) (h : Reads W B 1 (some ad) (tot.length + 5) (bs ([210, n / 16777216 % 256, n / 65536 % 256, n / 256 % 256, n % 256] ++ tot))) (hmc : tot.length + 5 ≤ c) (hcm : c ≤ maxLen) (hB : B ≤ W.heap.size) (h0 : -2147483648 ≤ n) (h1 : n < 0) :
    Calls Tryd.prog 37 #[.slice (some ad) (tot.length + 5) c] W (RE .u64 W) := by
  obtain ⟨ad', hA, hlt, hc⟩ := h.2 (by omega)
  injection hA with hA
  subst hA
  have hlw : ad.block < W.heap.size := by omega
  have hm1 : tot.length + 5 ≤ 9223372036854775807 := by simp only [maxLen] at hcm; omega
  have hc1 : c ≤ 9223372036854775807 := by simp only [maxLen] at hcm; omega
  have q0 := hc 0 _ rfl
  rw [add_zeroQ] at q0
  have hld : ∀ w, (loadVar 100 ⟨1, 0, none⟩).run Tryd.prog w = .ok (.agg #[]) w := fun w => by kernel_rfl
  obtain ⟨u, hu⟩ : ∃ u, u = n % 4294967296 := ⟨_, rfl⟩
  have HT : Hid (Reads W B 1 (some ⟨ad.block, ad.off + 1, none⟩) (tot.length + 4) (bs ([u / 16777216 % 256, u / 65536 % 256, u / 256 % 256, u % 256] ++ tot))) := by
    have ht := Reads.tailQ (e := [210]) (tot := [n / 16777216 % 256, n / 65536 % 256, n / 256 % 256, n % 256] ++ tot) h 1 rfl (by omega)
    rw [show n / 16777216 % 256 = u / 16777216 % 256 by omega] at ht
    rw [show n / 65536 % 256 = u / 65536 % 256 by omega] at ht
    rw [show n / 256 % 256 = u / 256 % 256 by omega] at ht
    rw [show n % 256 = u % 256 by omega] at ht
    rw [show ([u / 16777216 % 256, u / 65536 % 256, u / 256 % 256, u % 256] ++ tot).length = tot.length + 4 by simp] at ht
    exact ht
  have hwu : IntKind.i32.wrap u = n := by rw [hu]; simp [IntKind.wrap, IntKind.bits, IntKind.signed]; omega
  have hur : 0 ≤ u ∧ u < 4294967296 := by omega
  obtain ⟨hur0, hur1⟩ := hur
  have hlt0 : decide (n < 0) = true := decide_eq_true (by omega)
  clear hu
  clear hc
  have HR := Lib.hid h
  clear h
  go_enter Tryd.func37, Tryd.ntmps37
  go_wp2_with (first
    | (go_at_call 51
       go_must (
         (refine (isfix_no _ _ (by omega) (by omega)).mono ?_)
         rintro e w' ⟨rfl, rfl⟩))
    | (go_at_call 46
       go_must (
         (refine (beQ32 _ B _ _ _ u tot HT.out (by omega) (by omega) (by omega) (by omega)).mono ?_)
         rintro e w2 ⟨rfl, n2, rfl⟩)))
  all_goals (
    ((try simp only [Exit.inBlock, Exit.then]); refine bodyPost_ret (results_tmp3Q rfl _ _ _) rfl ?_)
    exact ⟨⟨_, _, rfl⟩, below_drewN ((Below.refl _ _).alloc (Nat.le_refl _) _) _⟩)

set_option maxHeartbeats 4000000 in
set_option maxRecDepth 100000 in
theorem ReadUint64Bytes_u8 (W : World) (B c : Nat) (ad : Addr) (n : Int) (tot : List Int) (h : Reads W B 1 (some ad) (tot.length + 9) (bs ([207, n / 72057594037927936 % 256, n / 281474976710656 % 256, n / 1099511627776 % 256, n / 4294967296 % 256, n / 16777216 % 256, n / 65536 % 256, n / 256 % 256, n % 256] ++ tot))) (hmc : tot.length + 9 ≤ c) (hcm : c ≤ maxLen) (hB : B ≤ W.heap.size) (h0 : 0 ≤ n) (h1 : n < 18446744073709551616) :
    Calls Tryd.prog 37 #[.slice (some ad) (tot.length + 9) c] W (RB .u64 n tot B W) := by
  obtain ⟨ad', hA, hlt, hc⟩ := h.2 (by omega)
  injection hA with hA
  subst hA
  have hlw : ad.block < W.heap.size := by omega
  have hm1 : tot.length + 9 ≤ 9223372036854775807 := by simp only [maxLen] at hcm; omega
  have hc1 : c ≤ 9223372036854775807 := by simp only [maxLen] at hcm; omega
  have q0 := hc 0 _ rfl
  rw [add_zeroQ] at q0
  have hld : ∀ w, (loadVar 100 ⟨1, 0, none⟩).run Tryd.prog w = .ok (.agg #[]) w := fun w => by kernel_rfl
  obtain ⟨u, hu⟩ : ∃ u, u = n := ⟨_, rfl⟩
  have HT : Hid (Reads W B 1 (some ⟨ad.block, ad.off + 1, none⟩) (tot.length + 8) (bs ([u / 72057594037927936 % 256, u / 281474976710656 % 256, u / 1099511627776 % 256, u / 4294967296 % 256, u / 16777216 % 256, u / 65536 % 256, u / 256 % 256, u % 256] ++ tot))) := by
    have ht := Reads.tailQ (e := [207]) (tot := [n / 72057594037927936 % 256, n / 281474976710656 % 256, n / 1099511627776 % 256, n / 4294967296 % 256, n / 16777216 % 256, n / 65536 % 256, n / 256 % 256, n % 256] ++ tot) h 1 rfl (by omega)
    rw [show n / 72057594037927936 % 256 = u / 72057594037927936 % 256 by omega] at ht
    rw [show n / 281474976710656 % 256 = u / 281474976710656 % 256 by omega] at ht
    rw [show n / 1099511627776 % 256 = u / 1099511627776 % 256 by omega] at ht
    rw [show n / 4294967296 % 256 = u / 4294967296 % 256 by omega] at ht
    rw [show n / 16777216 % 256 = u / 16777216 % 256 by omega] at ht
    rw [show n / 65536 % 256 = u / 65536 % 256 by omega] at ht
    rw [show n / 256 % 256 = u / 256 % 256 by omega] at ht
    rw [show n % 256 = u % 256 by omega] at ht
    rw [show ([u / 72057594037927936 % 256, u / 281474976710656 % 256, u / 1099511627776 % 256, u / 4294967296 % 256, u / 16777216 % 256, u / 65536 % 256, u / 256 % 256, u % 256] ++ tot).length = tot.length + 8 by simp] at ht
    exact ht
  have hur : 0 ≤ u ∧ u < 18446744073709551616 := by omega
  obtain ⟨hur0, hur1⟩ := hur
  have hun : u = n := hu
  clear hu
  clear hc
  have HR := Lib.hid h
  clear h
  go_enter Tryd.func37, Tryd.ntmps37
  go_wp2_with (first
    | (go_at_call 51
       go_must (
         (refine (isfix_no _ _ (by omega) (by omega)).mono ?_)
         rintro e w' ⟨rfl, rfl⟩))
    | (go_at_call 53
       go_must (
         (refine (beQ64 _ B _ _ _ u tot HT.out (by omega) (by omega) (by omega) (by omega)).mono ?_)
         rintro e w2 ⟨rfl, n2, rfl⟩)))
  all_goals (
    ((try simp only [Exit.inBlock, Exit.then]); refine bodyPost_ret (results_tmp3Q rfl _ _ _) rfl ?_)
    first
      | exact ⟨_, _, rfl, by omega, by omega, (Reads.tailQ (((HR.out.alloc hB _).drewN _)) 9 rfl (by omega)), (below_drewN ((Below.refl _ _).alloc (Nat.le_refl _) _) _)⟩
      | exact ⟨_, _, rfl, by omega, by omega, Reads.zeroQ (by omega), (below_drewN ((Below.refl _ _).alloc (Nat.le_refl _) _) _)⟩)

set_option maxHeartbeats 4000000 in
set_option maxRecDepth 100000 in
theorem ReadUint64Bytes_i8 (W : World) (B c : Nat) (ad : Addr) (n : Int) (tot : List Int) (h : Reads W B 1 (some ad) (tot.length + 9) (bs ([211, n / 72057594037927936 % 256, n / 281474976710656 % 256, n / 1099511627776 % 256, n / 4294967296 % 256, n / 16777216 % 256, n / 65536 % 256, n / 256 % 256, n % 256] ++ tot))) (hmc : tot.length + 9 ≤ c) (hcm : c ≤ maxLen) (hB : B ≤ W.heap.size) (h0 : 0 ≤ n) (h1 : n < 9223372036854775808) :
    Calls Tryd.prog 37 #[.slice (some ad) (tot.length + 9) c] W (RB .u64 n tot B W) := by
  obtain ⟨ad', hA, hlt, hc⟩ := h.2 (by omega)
  injection hA with hA
  subst hA
  have hlw : ad.block < W.heap.size := by omega
  have hm1 : tot.length + 9 ≤ 9223372036854775807 := by simp only [maxLen] at hcm; omega
  have hc1 : c ≤ 9223372036854775807 := by simp only [maxLen] at hcm; omega
  have q0 := hc 0 _ rfl
  rw [add_zeroQ] at q0
  have hld : ∀ w, (loadVar 100 ⟨1, 0, none⟩).run Tryd.prog w = .ok (.agg #[]) w := fun w => by kernel_rfl
  obtain ⟨u, hu⟩ : ∃ u, u = n % 18446744073709551616 := ⟨_, rfl⟩
  have HT : Hid (Reads W B 1 (some ⟨ad.block, ad.off + 1, none⟩) (tot.length + 8) (bs ([u / 72057594037927936 % 256, u / 281474976710656 % 256, u / 1099511627776 % 256, u / 4294967296 % 256, u / 16777216 % 256, u / 65536 % 256, u / 256 % 256, u % 256] ++ tot))) := by
    have ht := Reads.tailQ (e := [211]) (tot := [n / 72057594037927936 % 256, n / 281474976710656 % 256, n / 1099511627776 % 256, n / 4294967296 % 256, n / 16777216 % 256, n / 65536 % 256, n / 256 % 256, n % 256] ++ tot) h 1 rfl (by omega)
    rw [show n / 72057594037927936 % 256 = u / 72057594037927936 % 256 by omega] at ht
    rw [show n / 281474976710656 % 256 = u / 281474976710656 % 256 by omega] at ht
    rw [show n / 1099511627776 % 256 = u / 1099511627776 % 256 by omega] at ht
    rw [show n / 4294967296 % 256 = u / 4294967296 % 256 by omega] at ht
    rw [show n / 16777216 % 256 = u / 16777216 % 256 by omega] at ht
    rw [show n / 65536 % 256 = u / 65536 % 256 by omega] at ht
    rw [show n / 256 % 256 = u / 256 % 256 by omega] at ht
    rw [show n % 256 = u % 256 by omega] at ht
    rw [show ([u / 72057594037927936 % 256, u / 281474976710656 % 256, u / 1099511627776 % 256, u / 4294967296 % 256, u / 16777216 % 256, u / 65536 % 256, u / 256 % 256, u % 256] ++ tot).length = tot.length + 8 by simp] at ht
    exact ht
  have hwu : IntKind.i64.wrap u = n := by rw [hu]; simp [IntKind.wrap, IntKind.bits, IntKind.signed]; omega
  have hur : 0 ≤ u ∧ u < 18446744073709551616 := by omega
  obtain ⟨hur0, hur1⟩ := hur
  have hlt0 : decide (n < 0) = false := decide_eq_false (by omega)
  clear hu
  clear hc
  have HR := Lib.hid h
  clear h
  go_enter Tryd.func37, Tryd.ntmps37
  go_wp2_with (first
    | (go_at_call 51
       go_must (
         (refine (isfix_no _ _ (by omega) (by omega)).mono ?_)
         rintro e w' ⟨rfl, rfl⟩))
    | (go_at_call 53
       go_must (
         (refine (beQ64 _ B _ _ _ u tot HT.out (by omega) (by omega) (by omega) (by omega)).mono ?_)
         rintro e w2 ⟨rfl, n2, rfl⟩)))
  all_goals (
    ((try simp only [Exit.inBlock, Exit.then]); refine bodyPost_ret (results_tmp3Q rfl _ _ _) rfl ?_)
    first
      | exact ⟨_, _, rfl, by omega, by omega, (Reads.tailQ (((HR.out.alloc hB _).drewN _)) 9 rfl (by omega)), (below_drewN ((Below.refl _ _).alloc (Nat.le_refl _) _) _)⟩
      | exact ⟨_, _, rfl, by omega, by omega, Reads.zeroQ (by omega), (below_drewN ((Below.refl _ _).alloc (Nat.le_refl _) _) _)⟩)

set_option maxHeartbeats 4000000 in
set_option maxRecDepth 100000 in
theorem ReadUint64Bytes_n8 (W : World) (B c : Nat) (ad : Addr) (n : Int) (tot : List Int) (h : Reads W B 1 (some ad) (tot.length + 9) (bs ([211, n / 72057594037927936 % 256, n / 281474976710656 % 256, n / 1099511627776 % 256, n / 4294967296 % 256, n / 16777216 % 256, n / 65536 % 256, n / 256 % 256, n % 256] ++ tot))) (hmc : tot.length + 9 ≤ c) (hcm : c ≤ maxLen) (hB : B ≤ W.heap.size) (h0 : -9223372036854775808 ≤ n) (h1 : n < 0) :
    Calls Tryd.prog 37 #[.slice (some ad) (tot.length + 9) c] W (RE .u64 W) := by
  obtain ⟨ad', hA, hlt, hc⟩ := h.2 (by omega)
  injection hA with hA
  subst hA
  have hlw : ad.block < W.heap.size := by omega
  have hm1 : tot.length + 9 ≤ 9223372036854775807 := by simp only [maxLen] at hcm; omega
  have hc1 : c ≤ 9223372036854775807 := by simp only [maxLen] at hcm; omega
  have q0 := hc 0 _ rfl
  rw [add_zeroQ] at q0
  have hld : ∀ w, (loadVar 100 ⟨1, 0, none⟩).run Tryd.prog w = .ok (.agg #[]) w := fun w => by kernel_rfl
  obtain ⟨u, hu⟩ : ∃ u, u = n % 18446744073709551616 := ⟨_, rfl⟩
  have HT : Hid (Reads W B 1 (some ⟨ad.block, ad.off + 1, none⟩) (tot.length + 8) (bs ([u / 72057594037927936 % 256, u / 281474976710656 % 256, u / 1099511627776 % 256, u / 4294967296 % 256, u / 16777216 % 256, u / 65536 % 256, u / 256 % 256, u % 256] ++ tot))) := by
    have ht := Reads.tailQ (e := [211]) (tot := [n / 72057594037927936 % 256, n / 281474976710656 % 256, n / 1099511627776 % 256, n / 4294967296 % 256, n / 16777216 % 256, n / 65536 % 256, n / 256 % 256, n % 256] ++ tot) h 1 rfl (by omega)
    rw [show n / 72057594037927936 % 256 = u / 72057594037927936 % 256 by omega] at ht
    rw [show n / 281474976710656 % 256 = u / 281474976710656 % 256 by omega] at ht
    rw [show n / 1099511627776 % 256 = u / 1099511627776 % 256 by omega] at ht
    rw [show n / 4294967296 % 256 = u / 4294967296 % 256 by omega] at ht
    rw [show n / 16777216 % 256 = u / 16777216 % 256 by omega] at ht
    rw [show n / 65536 % 256 = u / 65536 % 256 by omega] at ht
    rw [show n / 256 % 256 = u / 256 % 256 by omega] at ht
    rw [show n % 256 = u % 256 by omega] at ht
    rw [show ([u / 72057594037927936 % 256, u / 281474976710656 % 256, u / 1099511627776 % 256, u / 4294967296 % 256, u / 16777216 % 256, u / 65536 % 256, u / 256 % 256, u % 256] ++ tot).length = tot.length + 8 by simp] at ht
    exact ht
  have hwu : IntKind.i64.wrap u = n := by rw [hu]; simp [IntKind.wrap, IntKind.bits, IntKind.signed]; omega
  have hur : 0 ≤ u ∧ u < 18446744073709551616 := by omega
  obtain ⟨hur0, hur1⟩ := hur
  have hlt0 : decide (n < 0) = true := decide_eq_true (by omega)
  clear hu
  clear hc
  have HR := Lib.hid h
  clear h
  go_enter Tryd.func37, Tryd.ntmps37
  go_wp2_with (first
    | (go_at_call 51
       go_must (
         (refine (isfix_no _ _ (by omega) (by omega)).mono ?_)
         rintro e w' ⟨rfl, rfl⟩))
    | (go_at_call 53
       go_must (
         (refine (beQ64 _ B _ _ _ u tot HT.out (by omega) (by omega) (by omega) (by omega)).mono ?_)
         rintro e w2 ⟨rfl, n2, rfl⟩)))
  all_goals (
    ((try simp only [Exit.inBlock, Exit.then]); refine bodyPost_ret (results_tmp3Q rfl _ _ _) rfl ?_)
    exact ⟨⟨_, _, rfl⟩, below_drewN ((Below.refl _ _).alloc (Nat.le_refl _) _) _⟩)

set_option maxHeartbeats 4000000 in
set_option maxRecDepth 100000 in
theorem ReadUint64Bytes_s204 (W : World) (B c : Nat) (ad : Addr) (n : Int) (tot : List Int) (h : Reads W B 1 (some ad) (tot.length + 1) (bs ([204] ++ tot))) (hmc : tot.length + 1 ≤ c) (hcm : c ≤ maxLen) (hB : B ≤ W.heap.size) (hl : tot.length < 1) (ts : TypeId) (vs : Value) (hsh : W.cell? ⟨0, 0, none⟩ = some (.iface ts vs))  :
    Calls Tryd.prog 37 #[.slice (some ad) (tot.length + 1) c] W (RE .u64 W) := by
  obtain ⟨ad', hA, hlt, hc⟩ := h.2 (by omega)
  injection hA with hA
  subst hA
  have hlw : ad.block < W.heap.size := by omega
  have hm1 : tot.length + 1 ≤ 9223372036854775807 := by simp only [maxLen] at hcm; omega
  have hc1 : c ≤ 9223372036854775807 := by simp only [maxLen] at hcm; omega
  have q0 := hc 0 _ rfl
  rw [add_zeroQ] at q0
  clear hc
  have HR := Lib.hid h
  clear h
  go_enter Tryd.func37, Tryd.ntmps37
  go_wp2_with (first
    | (go_at_call 51
       go_must (
         (refine (isfix_no _ _ (by omega) (by omega)).mono ?_)
         rintro e w' ⟨rfl, rfl⟩)))
  all_goals (
    ((try simp only [Exit.inBlock, Exit.then]); refine bodyPost_ret (results_tmp3Q rfl _ _ _) rfl ?_)
    exact ⟨⟨_, _, rfl⟩, Below.refl _ _⟩)

set_option maxHeartbeats 4000000 in
set_option maxRecDepth 100000 in
theorem ReadUint64Bytes_s208 (W : World) (B c : Nat) (ad : Addr) (n : Int) (tot : List Int) (h : Reads W B 1 (some ad) (tot.length + 1) (bs ([208] ++ tot))) (hmc : tot.length + 1 ≤ c) (hcm : c ≤ maxLen) (hB : B ≤ W.heap.size) (hl : tot.length < 1) (ts : TypeId) (vs : Value) (hsh : W.cell? ⟨0, 0, none⟩ = some (.iface ts vs))  :
    Calls Tryd.prog 37 #[.slice (some ad) (tot.length + 1) c] W (RE .u64 W) := by
  obtain ⟨ad', hA, hlt, hc⟩ := h.2 (by omega)
  injection hA with hA
  subst hA
  have hlw : ad.block < W.heap.size := by omega
  have hm1 : tot.length + 1 ≤ 9223372036854775807 := by simp only [maxLen] at hcm; omega
  have hc1 : c ≤ 9223372036854775807 := by simp only [maxLen] at hcm; omega
  have q0 := hc 0 _ rfl
  rw [add_zeroQ] at q0
  clear hc
  have HR := Lib.hid h
  clear h
  go_enter Tryd.func37, Tryd.ntmps37
  go_wp2_with (first
    | (go_at_call 51
       go_must (
         (refine (isfix_no _ _ (by omega) (by omega)).mono ?_)
         rintro e w' ⟨rfl, rfl⟩)))
  all_goals (
    ((try simp only [Exit.inBlock, Exit.then]); refine bodyPost_ret (results_tmp3Q rfl _ _ _) rfl ?_)
    exact ⟨⟨_, _, rfl⟩, Below.refl _ _⟩)

set_option maxHeartbeats 4000000 in
set_option maxRecDepth 100000 in
theorem ReadUint64Bytes_s205 (W : World) (B c : Nat) (ad : Addr) (n : Int) (tot : List Int) (h : Reads W B 1 (some ad) (tot.length + 1) (bs ([205] ++ tot))) (hmc : tot.length + 1 ≤ c) (hcm : c ≤ maxLen) (hB : B ≤ W.heap.size) (hl : tot.length < 2) (ts : TypeId) (vs : Value) (hsh : W.cell? ⟨0, 0, none⟩ = some (.iface ts vs))  :
    Calls Tryd.prog 37 #[.slice (some ad) (tot.length + 1) c] W (RE .u64 W) := by
  obtain ⟨ad', hA, hlt, hc⟩ := h.2 (by omega)
  injection hA with hA
  subst hA
  have hlw : ad.block < W.heap.size := by omega
  have hm1 : tot.length + 1 ≤ 9223372036854775807 := by simp only [maxLen] at hcm; omega
  have hc1 : c ≤ 9223372036854775807 := by simp only [maxLen] at hcm; omega
  have q0 := hc 0 _ rfl
  rw [add_zeroQ] at q0
  clear hc
  have HR := Lib.hid h
  clear h
  go_enter Tryd.func37, Tryd.ntmps37
  go_wp2_with (first
    | (go_at_call 51
       go_must (
         (refine (isfix_no _ _ (by omega) (by omega)).mono ?_)
         rintro e w' ⟨rfl, rfl⟩)))
  all_goals (
    ((try simp only [Exit.inBlock, Exit.then]); refine bodyPost_ret (results_tmp3Q rfl _ _ _) rfl ?_)
    exact ⟨⟨_, _, rfl⟩, Below.refl _ _⟩)

set_option maxHeartbeats 4000000 in
set_option maxRecDepth 100000 in
theorem ReadUint64Bytes_s209 (W : World) (B c : Nat) (ad : Addr) (n : Int) (tot : List Int) (h : Reads W B 1 (some ad) (tot.length + 1) (bs ([209] ++ tot))) (hmc : tot.length + 1 ≤ c) (hcm : c ≤ maxLen) (hB : B ≤ W.heap.size) (hl : tot.length < 2) (ts : TypeId) (vs : Value) (hsh : W.cell? ⟨0, 0, none⟩ = some (.iface ts vs))  :
    Calls Tryd.prog 37 #[.slice (some ad) (tot.length + 1) c] W (RE .u64 W) := by
  obtain ⟨ad', hA, hlt, hc⟩ := h.2 (by omega)
  injection hA with hA
  subst hA
  have hlw : ad.block < W.heap.size := by omega
  have hm1 : tot.length + 1 ≤ 9223372036854775807 := by simp only [maxLen] at hcm; omega
  have hc1 : c ≤ 9223372036854775807 := by simp only [maxLen] at hcm; omega
  have q0 := hc 0 _ rfl
  rw [add_zeroQ] at q0
  clear hc
  have HR := Lib.hid h
  clear h
  go_enter Tryd.func37, Tryd.ntmps37
  go_wp2_with (first
    | (go_at_call 51
       go_must (
         (refine (isfix_no _ _ (by omega) (by omega)).mono ?_)
         rintro e w' ⟨rfl, rfl⟩)))
  all_goals (
    ((try simp only [Exit.inBlock, Exit.then]); refine bodyPost_ret (results_tmp3Q rfl _ _ _) rfl ?_)
    exact ⟨⟨_, _, rfl⟩, Below.refl _ _⟩)

set_option maxHeartbeats 4000000 in
set_option maxRecDepth 100000 in
theorem ReadUint64Bytes_s206 (W : World) (B c : Nat) (ad : Addr) (n : Int) (tot : List Int) (h : Reads W B 1 (some ad) (tot.length + 1) (bs ([206] ++ tot))) (hmc : tot.length + 1 ≤ c) (hcm : c ≤ maxLen) (hB : B ≤ W.heap.size) (hl : tot.length < 4) (ts : TypeId) (vs : Value) (hsh : W.cell? ⟨0, 0, none⟩ = some (.iface ts vs))  :
    Calls Tryd.prog 37 #[.slice (some ad) (tot.length + 1) c] W (RE .u64 W) := by
  obtain ⟨ad', hA, hlt, hc⟩ := h.2 (by omega)
  injection hA with hA
  subst hA
  have hlw : ad.block < W.heap.size := by omega
  have hm1 : tot.length + 1 ≤ 9223372036854775807 := by simp only [maxLen] at hcm; omega
  have hc1 : c ≤ 9223372036854775807 := by simp only [maxLen] at hcm; omega
  have q0 := hc 0 _ rfl
  rw [add_zeroQ] at q0
  clear hc
  have HR := Lib.hid h
  clear h
  go_enter Tryd.func37, Tryd.ntmps37
  go_wp2_with (first
    | (go_at_call 51
       go_must (
         (refine (isfix_no _ _ (by omega) (by omega)).mono ?_)
         rintro e w' ⟨rfl, rfl⟩)))
  all_goals (
    ((try simp only [Exit.inBlock, Exit.then]); refine bodyPost_ret (results_tmp3Q rfl _ _ _) rfl ?_)
    exact ⟨⟨_, _, rfl⟩, Below.refl _ _⟩)

set_option maxHeartbeats 4000000 in
set_option maxRecDepth 100000 in
theorem ReadUint64Bytes_s210 (W : World) (B c : Nat) (ad : Addr) (n : Int) (tot : List Int) (h : Reads W B 1 (some ad) (tot.length + 1) (bs ([210] ++ tot))) (hmc : tot.length + 1 ≤ c) (hcm : c ≤ maxLen) (hB : B ≤ W.heap.size) (hl : tot.length < 4) (ts : TypeId) (vs : Value) (hsh : W.cell? ⟨0, 0, none⟩ = some (.iface ts vs))  :
    Calls Tryd.prog 37 #[.slice (some ad) (tot.length + 1) c] W (RE .u64 W) := by
  obtain ⟨ad', hA, hlt, hc⟩ := h.2 (by omega)
  injection hA with hA
  subst hA
  have hlw : ad.block < W.heap.size := by omega
  have hm1 : tot.length + 1 ≤ 9223372036854775807 := by simp only [maxLen] at hcm; omega
  have hc1 : c ≤ 9223372036854775807 := by simp only [maxLen] at hcm; omega
  have q0 := hc 0 _ rfl
  rw [add_zeroQ] at q0
  clear hc
  have HR := Lib.hid h
  clear h
  go_enter Tryd.func37, Tryd.ntmps37
  go_wp2_with (first
    | (go_at_call 51
       go_must (
         (refine (isfix_no _ _ (by omega) (by omega)).mono ?_)
         rintro e w' ⟨rfl, rfl⟩)))
  all_goals (
    ((try simp only [Exit.inBlock, Exit.then]); refine bodyPost_ret (results_tmp3Q rfl _ _ _) rfl ?_)
    exact ⟨⟨_, _, rfl⟩, Below.refl _ _⟩)

set_option maxHeartbeats 4000000 in
set_option maxRecDepth 100000 in
theorem ReadUint64Bytes_s207 (W : World) (B c : Nat) (ad : Addr) (n : Int) (tot : List Int) (h : Reads W B 1 (some ad) (tot.length + 1) (bs ([207] ++ tot))) (hmc : tot.length + 1 ≤ c) (hcm : c ≤ maxLen) (hB : B ≤ W.heap.size) (hl : tot.length < 8) (ts : TypeId) (vs : Value) (hsh : W.cell? ⟨0, 0, none⟩ = some (.iface ts vs))  :
    Calls Tryd.prog 37 #[.slice (some ad) (tot.length + 1) c] W (RE .u64 W) := by
  obtain ⟨ad', hA, hlt, hc⟩ := h.2 (by omega)
  injection hA with hA
  subst hA
  have hlw : ad.block < W.heap.size := by omega
  have hm1 : tot.length + 1 ≤ 9223372036854775807 := by simp only [maxLen] at hcm; omega
  have hc1 : c ≤ 9223372036854775807 := by simp only [maxLen] at hcm; omega
  have q0 := hc 0 _ rfl
  rw [add_zeroQ] at q0
  clear hc
  have HR := Lib.hid h
  clear h
  go_enter Tryd.func37, Tryd.ntmps37
  go_wp2_with (first
    | (go_at_call 51
       go_must (
         (refine (isfix_no _ _ (by omega) (by omega)).mono ?_)
         rintro e w' ⟨rfl, rfl⟩)))
  all_goals (
    ((try simp only [Exit.inBlock, Exit.then]); refine bodyPost_ret (results_tmp3Q rfl _ _ _) rfl ?_)
    exact ⟨⟨_, _, rfl⟩, Below.refl _ _⟩)

set_option maxHeartbeats 4000000 in
set_option maxRecDepth 100000 in
theorem ReadUint64Bytes_s211 (W : World) (B c : Nat) (ad : Addr) (n : Int) (tot : List Int) (h : Reads W B 1 (some ad) (tot.length + 1) (bs ([211] ++ tot))) (hmc : tot.length + 1 ≤ c) (hcm : c ≤ maxLen) (hB : B ≤ W.heap.size) (hl : tot.length < 8) (ts : TypeId) (vs : Value) (hsh : W.cell? ⟨0, 0, none⟩ = some (.iface ts vs))  :
    Calls Tryd.prog 37 #[.slice (some ad) (tot.length + 1) c] W (RE .u64 W) := by
  obtain ⟨ad', hA, hlt, hc⟩ := h.2 (by omega)
  injection hA with hA
  subst hA
  have hlw : ad.block < W.heap.size := by omega
  have hm1 : tot.length + 1 ≤ 9223372036854775807 := by simp only [maxLen] at hcm; omega
  have hc1 : c ≤ 9223372036854775807 := by simp only [maxLen] at hcm; omega
  have q0 := hc 0 _ rfl
  rw [add_zeroQ] at q0
  clear hc
  have HR := Lib.hid h
  clear h
  go_enter Tryd.func37, Tryd.ntmps37
  go_wp2_with (first
    | (go_at_call 51
       go_must (
         (refine (isfix_no _ _ (by omega) (by omega)).mono ?_)
         rintro e w' ⟨rfl, rfl⟩)))
  all_goals (
    ((try simp only [Exit.inBlock, Exit.then]); refine bodyPost_ret (results_tmp3Q rfl _ _ _) rfl ?_)
    exact ⟨⟨_, _, rfl⟩, Below.refl _ _⟩)

set_option maxHeartbeats 4000000 in
set_option maxRecDepth 100000 in
theorem ReadUint64Bytes_other (W : World) (B c : Nat) (ad : Addr) (n : Int) (tot : List Int) (h : Reads W B 1 (some ad) (tot.length + 1) (bs ([n] ++ tot))) (hmc : tot.length + 1 ≤ c) (hcm : c ≤ maxLen) (hB : B ≤ W.heap.size) (h0 : 128 ≤ n) (h1 : n < 224) (h2 : n < 204 ∨ 211 < n) :
    Calls Tryd.prog 37 #[.slice (some ad) (tot.length + 1) c] W (RE .u64 W) := by
  obtain ⟨ad', hA, hlt, hc⟩ := h.2 (by omega)
  injection hA with hA
  subst hA
  have hlw : ad.block < W.heap.size := by omega
  have hm1 : tot.length + 1 ≤ 9223372036854775807 := by simp only [maxLen] at hcm; omega
  have hc1 : c ≤ 9223372036854775807 := by simp only [maxLen] at hcm; omega
  have q0 := hc 0 _ rfl
  rw [add_zeroQ] at q0
  have d208 : (n == 208) = false := by simp; omega
  have e208 : decide (n = 208) = false := decide_eq_false (by omega)
  have d204 : (n == 204) = false := by simp; omega
  have e204 : decide (n = 204) = false := decide_eq_false (by omega)
  have d209 : (n == 209) = false := by simp; omega
  have e209 : decide (n = 209) = false := decide_eq_false (by omega)
  have d205 : (n == 205) = false := by simp; omega
  have e205 : decide (n = 205) = false := decide_eq_false (by omega)
  have d210 : (n == 210) = false := by simp; omega
  have e210 : decide (n = 210) = false := decide_eq_false (by omega)
  have d206 : (n == 206) = false := by simp; omega
  have e206 : decide (n = 206) = false := decide_eq_false (by omega)
  have d211 : (n == 211) = false := by simp; omega
  have e211 : decide (n = 211) = false := decide_eq_false (by omega)
  have d207 : (n == 207) = false := by simp; omega
  have e207 : decide (n = 207) = false := decide_eq_false (by omega)
  have hnf : decide (224 ≤ n) = false := decide_eq_false (by omega)
  clear hc
  have HR := Lib.hid h
  clear h
  go_enter Tryd.func37, Tryd.ntmps37
  go_wp2_with (first
    | (go_at_call 51
       go_must (
         (refine (isfix_no _ _ (by omega) (by omega)).mono ?_)
         rintro e w' ⟨rfl, rfl⟩))
    | (go_at_call 54
       go_must (
         (refine (isnfix_calls _ _ (by omega) (by omega)).mono ?_)
         rintro e w' ⟨rfl, rfl⟩))
    | (go_at_call 47
       go_must (
         (refine (badPrefix_any _ _ _ (by omega) (by omega)).mono ?_)
         rintro e w2 ⟨⟨t, v, rfl⟩, hb2⟩
         have HB2 := Lib.hid hb2
         clear hb2)))
  all_goals (
    ((try simp only [Exit.inBlock, Exit.then]); refine bodyPost_ret (results_tmp3Q rfl _ _ _) rfl ?_)
    exact ⟨⟨_, _, rfl⟩, HB2.out⟩)

set_option maxHeartbeats 4000000 in
set_option maxRecDepth 100000 in
theorem ReadUint64Bytes_none (W : World) (c : Nat) (A : Option Addr) (ts : TypeId) (vs : Value) (hsh : W.cell? ⟨0, 0, none⟩ = some (.iface ts vs)) :
    Calls Tryd.prog 37 #[.slice A 0 c] W (RE .u64 W) := by
  go_enter Tryd.func37, Tryd.ntmps37
  go_wp2
  go_quiet (fail)
  go_wp2
  ((try simp only [Exit.inBlock, Exit.then]); refine bodyPost_ret (results_tmp3Q rfl _ _ _) rfl ?_)
  exact ⟨⟨_, _, rfl⟩, below_drewN (Below.refl _ _) _⟩
end Go.Proofs.YtfhaddnacdjpoaaDoor
