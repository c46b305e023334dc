/- ReadInt64Bytes, ReadUint64Bytes at every form. PRINTED by wip/genpt.py. -/
import Derived.Test.YtfhaddnacdjpoaaDoorPr
namespace Go.Proofs.YtfhaddnacdjpoaaDoor
open Go.RowKit
set_option linter.unusedVariables false

/-- A number is read; what stands behind it is handed on. -/
def RB (kd : IntKind) (n : Int) (tot : List Int) (B : Nat) (w : World) (e : Ending) (w' : World) : Prop :=
  ∃ A c, e = .returned (.tuple #[.int kd n, .slice A tot.length c, .nilIface]) ∧ tot.length ≤ c ∧ c ≤ maxLen ∧ Reads w' B 1 A tot.length (bs tot) ∧ Below w.heap.size w w'
/-- No number is read. -/
def RE (kd : IntKind) (w : World) (e : Ending) (w' : World) : Prop :=
  (∃ t v, e = .returned (.tuple #[.int kd 0, .slice none 0 0, .iface t v])) ∧ Below w.heap.size w w'
theorem Reads.tailQ {w : World} {B : Nat} {ad : Addr} {e tot : List Int} {m : Nat} (h : Reads w B 1 (some ad) m (bs (e ++ tot))) (k : Nat) (hk : k = e.length) (h0 : 0 < k) : Reads w B 1 (some ⟨ad.block, ad.off + k, none⟩) tot.length (bs tot) := by
  have hm : m = e.length + tot.length := by have := h.1; simp [bs] at this; omega
  refine ⟨by simp [bs], fun hn => ?_⟩
  obtain ⟨ad', hA, hb, hc⟩ := h.2 (by omega)
  injection hA with hA
  subst hA
  refine ⟨_, rfl, hb, fun j u hu => ?_⟩
  have hg : (bs (e ++ tot))[k + j]? = some u := by
    rw [bs_append, List.getElem?_append_right (by simp [bs]; omega)]
    rw [← hu]
    congr 1
    simp [bs]
    omega
  have := hc (k + j) u hg
  have e2 : (⟨ad.block, ad.off + k, none⟩ : Addr).add j = ad.add (k + j) := by
    rw [← add_of_add]
    congr 1
    cases k with
    | zero => omega
    | succ k => simp [Addr.add]
  rw [e2]
  exact this
theorem results_tmp3Q {fn : Func} {t u v : Tmp} (h : fn.results = #[.tmp t, .tmp u, .tmp v]) (tmps : Array Value) (P : Program) (w : World) :
    (results fn tmps).run P w = .ok (.tuple #[tmps.getD t undef, tmps.getD u undef, tmps.getD v undef]) w := by
  simp [results, h]
theorem Reads.zeroQ {w : World} {B : Nat} {A : Option Addr} {tot : List Int} (h : tot.length = 0) : Reads w B 1 A tot.length (bs tot) := ⟨by simp [bs], fun hn => by omega⟩

set_option maxHeartbeats 4000000 in
set_option maxRecDepth 100000 in
theorem ReadInt64Bytes_fix (W : World) (B c : Nat) (ad : Addr) (n : Int) (tot : List Int) (h : Reads W B 1 (some ad) (tot.length + 1) (bs ([n] ++ tot))) (hmc : tot.length + 1 ≤ c) (hcm : c ≤ maxLen) (hB : B ≤ W.heap.size) (h0 : 0 ≤ n) (h1 : n < 128) :
    Calls Tryd.prog 48 #[.slice (some ad) (tot.length + 1) c] W (RB .i64 n tot B W) := by
  obtain ⟨ad', hA, hlt, hc⟩ := h.2 (by omega)
  injection hA with hA
  subst hA
  have hlw : ad.block < W.heap.size := by omega
  have hm1 : tot.length + 1 ≤ 9223372036854775807 := by simp only [maxLen] at hcm; omega
  have hc1 : c ≤ 9223372036854775807 := by simp only [maxLen] at hcm; omega
  have q0 := hc 0 _ rfl
  rw [add_zeroQ] at q0
  clear hc
  have HR := Lib.hid h
  clear h
  go_enter Tryd.func48, Tryd.ntmps48
  go_wp2_with (first
    | (go_at_call 51
       go_must (
         (refine (isfix_yes _ _ (by omega) (by omega)).mono ?_)
         rintro e w' ⟨rfl, rfl⟩))
    | (go_at_call 52
       go_must (
         (refine (rfix_calls _ _).mono ?_)
         rintro e w' ⟨rfl, rfl⟩)))
  all_goals (
    ((try simp only [Exit.inBlock, Exit.then]); refine bodyPost_ret (results_tmp3Q rfl _ _ _) rfl ?_)
    first
      | exact ⟨_, _, rfl, by omega, by omega, (Reads.tailQ HR.out 1 rfl (by omega)), (Below.refl _ _)⟩
      | exact ⟨_, _, rfl, by omega, by omega, Reads.zeroQ (by omega), (Below.refl _ _)⟩)

set_option maxHeartbeats 4000000 in
set_option maxRecDepth 100000 in
theorem ReadInt64Bytes_neg (W : World) (B c : Nat) (ad : Addr) (n : Int) (tot : List Int) (h : Reads W B 1 (some ad) (tot.length + 1) (bs ([n + 256] ++ tot))) (hmc : tot.length + 1 ≤ c) (hcm : c ≤ maxLen) (hB : B ≤ W.heap.size) (h0 : -32 ≤ n) (h1 : n < 0) :
    Calls Tryd.prog 48 #[.slice (some ad) (tot.length + 1) c] W (RB .i64 n tot B W) := by
  obtain ⟨ad', hA, hlt, hc⟩ := h.2 (by omega)
  injection hA with hA
  subst hA
  have hlw : ad.block < W.heap.size := by omega
  have hm1 : tot.length + 1 ≤ 9223372036854775807 := by simp only [maxLen] at hcm; omega
  have hc1 : c ≤ 9223372036854775807 := by simp only [maxLen] at hcm; omega
  have q0 := hc 0 _ rfl
  rw [add_zeroQ] at q0
  clear hc
  have HR := Lib.hid h
  clear h
  go_enter Tryd.func48, Tryd.ntmps48
  go_wp2_with (first
    | (go_at_call 51
       go_must (
         (refine (isfix_no _ _ (by omega) (by omega)).mono ?_)
         rintro e w' ⟨rfl, rfl⟩))
    | (go_at_call 54
       go_must (
         (refine (isnfix_calls _ _ (by omega) (by omega)).mono ?_)
         rintro e w' ⟨rfl, rfl⟩))
    | (go_at_call 55
       go_must (
         (refine (rnfix_calls _ _ (by omega) (by omega)).mono ?_)
         rintro e w' ⟨rfl, rfl⟩)))
  all_goals (
    ((try simp only [Exit.inBlock, Exit.then]); refine bodyPost_ret (results_tmp3Q rfl _ _ _) rfl ?_)
    first
      | exact ⟨_, _, rfl, by omega, by omega, (Reads.tailQ HR.out 1 rfl (by omega)), (Below.refl _ _)⟩
      | exact ⟨_, _, rfl, by omega, by omega, Reads.zeroQ (by omega), (Below.refl _ _)⟩)

set_option maxHeartbeats 4000000 in
set_option maxRecDepth 100000 in
theorem ReadInt64Bytes_u1 (W : World) (B c : Nat) (ad : Addr) (n : Int) (tot : List Int) (h : Reads W B 1 (some ad) (tot.length + 2) (bs ([204, n] ++ tot))) (hmc : tot.length + 2 ≤ c) (hcm : c ≤ maxLen) (hB : B ≤ W.heap.size) (h0 : 0 ≤ n) (h1 : n < 256) :
    Calls Tryd.prog 48 #[.slice (some ad) (tot.length + 2) c] W (RB .i64 n tot B W) := by
  obtain ⟨ad', hA, hlt, hc⟩ := h.2 (by omega)
  injection hA with hA
  subst hA
  have hlw : ad.block < W.heap.size := by omega
  have hm1 : tot.length + 2 ≤ 9223372036854775807 := by simp only [maxLen] at hcm; omega
  have hc1 : c ≤ 9223372036854775807 := by simp only [maxLen] at hcm; omega
  have q0 := hc 0 _ rfl
  rw [add_zeroQ] at q0
  have q1 : W.cell? ⟨ad.block, ad.off + 1, none⟩ = some _ := hc 1 _ rfl
  clear hc
  have HR := Lib.hid h
  clear h
  go_enter Tryd.func48, Tryd.ntmps48
  go_wp2_with (first
    | (go_at_call 51
       go_must (
         (refine (isfix_no _ _ (by omega) (by omega)).mono ?_)
         rintro e w' ⟨rfl, rfl⟩))
    | (go_at_call 54
       go_must (
         (refine (isnfix_calls _ _ (by omega) (by omega)).mono ?_)
         rintro e w' ⟨rfl, rfl⟩)))
  all_goals (
    ((try simp only [Exit.inBlock, Exit.then]); refine bodyPost_ret (results_tmp3Q rfl _ _ _) rfl ?_)
    first
      | exact ⟨_, _, rfl, by omega, by omega, (Reads.tailQ HR.out 2 rfl (by omega)), (Below.refl _ _)⟩
      | exact ⟨_, _, rfl, by omega, by omega, Reads.zeroQ (by omega), (Below.refl _ _)⟩)

set_option maxHeartbeats 4000000 in
set_option maxRecDepth 100000 in
theorem ReadInt64Bytes_i1 (W : World) (B c : Nat) (ad : Addr) (n : Int) (tot : List Int) (h : Reads W B 1 (some ad) (tot.length + 2) (bs ([208, n % 256] ++ tot))) (hmc : tot.length + 2 ≤ c) (hcm : c ≤ maxLen) (hB : B ≤ W.heap.size) (h0 : -128 ≤ n) (h1 : n < 128) :
    Calls Tryd.prog 48 #[.slice (some ad) (tot.length + 2) c] W (RB .i64 n tot B W) := by
  obtain ⟨ad', hA, hlt, hc⟩ := h.2 (by omega)
  injection hA with hA
  subst hA
  have hlw : ad.block < W.heap.size := by omega
  have hm1 : tot.length + 2 ≤ 9223372036854775807 := by simp only [maxLen] at hcm; omega
  have hc1 : c ≤ 9223372036854775807 := by simp only [maxLen] at hcm; omega
  have q0 := hc 0 _ rfl
  rw [add_zeroQ] at q0
  have q1 : W.cell? ⟨ad.block, ad.off + 1, none⟩ = some _ := hc 1 _ rfl
  have hw : IntKind.i8.wrap (n % 256) = n := by simp [IntKind.wrap, IntKind.bits, IntKind.signed]; omega
  clear hc
  have HR := Lib.hid h
  clear h
  go_enter Tryd.func48, Tryd.ntmps48
  go_wp2_with (first
    | (go_at_call 51
       go_must (
         (refine (isfix_no _ _ (by omega) (by omega)).mono ?_)
         rintro e w' ⟨rfl, rfl⟩))
    | (go_at_call 54
       go_must (
         (refine (isnfix_calls _ _ (by omega) (by omega)).mono ?_)
         rintro e w' ⟨rfl, rfl⟩)))
  all_goals (
    ((try simp only [Exit.inBlock, Exit.then]); refine bodyPost_ret (results_tmp3Q rfl _ _ _) rfl ?_)
    first
      | exact ⟨_, _, rfl, by omega, by omega, (Reads.tailQ HR.out 2 rfl (by omega)), (Below.refl _ _)⟩
      | exact ⟨_, _, rfl, by omega, by omega, Reads.zeroQ (by omega), (Below.refl _ _)⟩)

set_option maxHeartbeats 4000000 in
set_option maxRecDepth 100000 in
theorem ReadInt64Bytes_u2 (W : World) (B c : Nat) (ad : Addr) (n : Int) (tot : List Int) (h : Reads W B 1 (some ad) (tot.length + 3) (bs ([205, n / 256 % 256, n % 256] ++ tot))) (hmc : tot.length + 3 ≤ c) (hcm : c ≤ maxLen) (hB : B ≤ W.heap.size) (h0 : 0 ≤ n) (h1 : n < 65536) :
    Calls Tryd.prog 48 #[.slice (some ad) (tot.length + 3) c] W (RB .i64 n tot B W) := by
  obtain ⟨ad', hA, hlt, hc⟩ := h.2 (by omega)
  injection hA with hA
  subst hA
  have hlw : ad.block < W.heap.size := by omega
  have hm1 : tot.length + 3 ≤ 9223372036854775807 := by simp only [maxLen] at hcm; omega
  have hc1 : c ≤ 9223372036854775807 := by simp only [maxLen] at hcm; omega
  have q0 := hc 0 _ rfl
  rw [add_zeroQ] at q0
  have hld : ∀ w, (loadVar 100 ⟨1, 0, none⟩).run Tryd.prog w = .ok (.agg #[]) w := fun w => by kernel_rfl
  obtain ⟨u, hu⟩ : ∃ u, u = n := ⟨_, rfl⟩
  have HT : Hid (Reads W B 1 (some ⟨ad.block, ad.off + 1, none⟩) (tot.length + 2) (bs ([u / 256 % 256, u % 256] ++ tot))) := by
    have ht := Reads.tailQ (e := [205]) (tot := [n / 256 % 256, n % 256] ++ tot) h 1 rfl (by omega)
    rw [show n / 256 % 256 = u / 256 % 256 by omega] at ht
    rw [show n % 256 = u % 256 by omega] at ht
    rw [show ([u / 256 % 256, u % 256] ++ tot).length = tot.length + 2 by simp] at ht
    exact ht
  have hwv : IntKind.i64.wrap u = n := by rw [hu]; simp [IntKind.wrap, IntKind.bits, IntKind.signed]; omega
  have hur : 0 ≤ u ∧ u < 65536 := by omega
  have hgt : decide (9223372036854775807 < u) = false := decide_eq_false (by omega)
  obtain ⟨hur0, hur1⟩ := hur
  clear hu
  clear hc
  have HR := Lib.hid h
  clear h
  go_enter Tryd.func48, Tryd.ntmps48
  go_wp2_with (first
    | (go_at_call 51
       go_must (
         (refine (isfix_no _ _ (by omega) (by omega)).mono ?_)
         rintro e w' ⟨rfl, rfl⟩))
    | (go_at_call 54
       go_must (
         (refine (isnfix_calls _ _ (by omega) (by omega)).mono ?_)
         rintro e w' ⟨rfl, rfl⟩))
    | (go_at_call 45
       go_must (
         (refine (beQ16 _ B _ _ _ u tot HT.out (by omega) (by omega) (by omega) (by omega)).mono ?_)
         rintro e w2 ⟨rfl, n2, rfl⟩)))
  all_goals (
    ((try simp only [Exit.inBlock, Exit.then]); refine bodyPost_ret (results_tmp3Q rfl _ _ _) rfl ?_)
    first
      | exact ⟨_, _, rfl, by omega, by omega, (Reads.tailQ (((HR.out.alloc hB _).drewN _)) 3 rfl (by omega)), (below_drewN ((Below.refl _ _).alloc (Nat.le_refl _) _) _)⟩
      | exact ⟨_, _, rfl, by omega, by omega, Reads.zeroQ (by omega), (below_drewN ((Below.refl _ _).alloc (Nat.le_refl _) _) _)⟩)

set_option maxHeartbeats 4000000 in
set_option maxRecDepth 100000 in
theorem ReadInt64Bytes_i2 (W : World) (B c : Nat) (ad : Addr) (n : Int) (tot : List Int) (h : Reads W B 1 (some ad) (tot.length + 3) (bs ([209, n / 256 % 256, n % 256] ++ tot))) (hmc : tot.length + 3 ≤ c) (hcm : c ≤ maxLen) (hB : B ≤ W.heap.size) (h0 : -32768 ≤ n) (h1 : n < 32768) :
    Calls Tryd.prog 48 #[.slice (some ad) (tot.length + 3) c] W (RB .i64 n tot B W) := by
  obtain ⟨ad', hA, hlt, hc⟩ := h.2 (by omega)
  injection hA with hA
  subst hA
  have hlw : ad.block < W.heap.size := by omega
  have hm1 : tot.length + 3 ≤ 9223372036854775807 := by simp only [maxLen] at hcm; omega
  have hc1 : c ≤ 9223372036854775807 := by simp only [maxLen] at hcm; omega
  have q0 := hc 0 _ rfl
  rw [add_zeroQ] at q0
  have hld : ∀ w, (loadVar 100 ⟨1, 0, none⟩).run Tryd.prog w = .ok (.agg #[]) w := fun w => by kernel_rfl
  obtain ⟨u, hu⟩ : ∃ u, u = n % 65536 := ⟨_, rfl⟩
  have HT : Hid (Reads W B 1 (some ⟨ad.block, ad.off + 1, none⟩) (tot.length + 2) (bs ([u / 256 % 256, u % 256] ++ tot))) := by
    have ht := Reads.tailQ (e := [209]) (tot := [n / 256 % 256, n % 256] ++ tot) h 1 rfl (by omega)
    rw [show n / 256 % 256 = u / 256 % 256 by omega] at ht
    rw [show n % 256 = u % 256 by omega] at ht
    rw [show ([u / 256 % 256, u % 256] ++ tot).length = tot.length + 2 by simp] at ht
    exact ht
  have hwu : IntKind.i16.wrap u = n := by rw [hu]; simp [IntKind.wrap, IntKind.bits, IntKind.signed]; omega
  have hur : 0 ≤ u ∧ u < 65536 := by omega
  obtain ⟨hur0, hur1⟩ := hur
  clear hu
  clear hc
  have HR := Lib.hid h
  clear h
  go_enter Tryd.func48, Tryd.ntmps48
  go_wp2_with (first
    | (go_at_call 51
       go_must (
         (refine (isfix_no _ _ (by omega) (by omega)).mono ?_)
         rintro e w' ⟨rfl, rfl⟩))
    | (go_at_call 54
       go_must (
         (refine (isnfix_calls _ _ (by omega) (by omega)).mono ?_)
         rintro e w' ⟨rfl, rfl⟩))
    | (go_at_call 45
       go_must (
         (refine (beQ16 _ B _ _ _ u tot HT.out (by omega) (by omega) (by omega) (by omega)).mono ?_)
         rintro e w2 ⟨rfl, n2, rfl⟩)))
  all_goals (
    ((try simp only [Exit.inBlock, Exit.then]); refine bodyPost_ret (results_tmp3Q rfl _ _ _) rfl ?_)
    first
      | exact ⟨_, _, rfl, by omega, by omega, (Reads.tailQ (((HR.out.alloc hB _).drewN _)) 3 rfl (by omega)), (below_drewN ((Below.refl _ _).alloc (Nat.le_refl _) _) _)⟩
      | exact ⟨_, _, rfl, by omega, by omega, Reads.zeroQ (by omega), (below_drewN ((Below.refl _ _).alloc (Nat.le_refl _) _) _)⟩)

set_option maxHeartbeats 4000000 in
set_option maxRecDepth 100000 in
theorem ReadInt64Bytes_u4 (W : World) (B c : Nat) (ad : Addr) (n : Int) (tot : List Int) (h : Reads W B 1 (some ad) (tot.length + 5) (bs ([206, n / 16777216 % 256, n / 65536 % 256, n / 256 % 256, n % 256] ++ tot))) (hmc : tot.length + 5 ≤ c) (hcm : c ≤ maxLen) (hB : B ≤ W.heap.size) (h0 : 0 ≤ n) (h1 : n < 4294967296) :
    Calls Tryd.prog 48 #[.slice (some ad) (tot.length + 5) c] W (RB .i64 n tot B W) := by
  obtain ⟨ad', hA, hlt, hc⟩ := h.2 (by omega)
  injection hA with hA
  subst hA
  have hlw : ad.block < W.heap.size := by omega
  have hm1 : tot.length + 5 ≤ 9223372036854775807 := by simp only [maxLen] at hcm; omega
  have hc1 : c ≤ 9223372036854775807 := by simp only [maxLen] at hcm; omega
  have q0 := hc 0 _ rfl
  rw [add_zeroQ] at q0
  have hld : ∀ w, (loadVar 100 ⟨1, 0, none⟩).run Tryd.prog w = .ok (.agg #[]) w := fun w => by kernel_rfl
  obtain ⟨u, hu⟩ : ∃ u, u = n := ⟨_, rfl⟩
  have HT : Hid (Reads W B 1 (some ⟨ad.block, ad.off + 1, none⟩) (tot.length + 4) (bs ([u / 16777216 % 256, u / 65536 % 256, u / 256 % 256, u % 256] ++ tot))) := by
    have ht := Reads.tailQ (e := [206]) (tot := [n / 16777216 % 256, n / 65536 % 256, n / 256 % 256, n % 256] ++ tot) h 1 rfl (by omega)
    rw [show n / 16777216 % 256 = u / 16777216 % 256 by omega] at ht
    rw [show n / 65536 % 256 = u / 65536 % 256 by omega] at ht
    rw [show n / 256 % 256 = u / 256 % 256 by omega] at ht
    rw [show n % 256 = u % 256 by omega] at ht
    rw [show ([u / 16777216 % 256, u / 65536 % 256, u / 256 % 256, u % 256] ++ tot).length = tot.length + 4 by simp] at ht
    exact ht
  have hwv : IntKind.i64.wrap u = n := by rw [hu]; simp [IntKind.wrap, IntKind.bits, IntKind.signed]; omega
  have hur : 0 ≤ u ∧ u < 4294967296 := by omega
  have hgt : decide (9223372036854775807 < u) = false := decide_eq_false (by omega)
  obtain ⟨hur0, hur1⟩ := hur
  clear hu
  clear hc
  have HR := Lib.hid h
  clear h
  go_enter Tryd.func48, Tryd.ntmps48
  go_wp2_with (first
    | (go_at_call 51
       go_must (
         (refine (isfix_no _ _ (by omega) (by omega)).mono ?_)
         rintro e w' ⟨rfl, rfl⟩))
    | (go_at_call 54
       go_must (
         (refine (isnfix_calls _ _ (by omega) (by omega)).mono ?_)
         rintro e w' ⟨rfl, rfl⟩))
    | (go_at_call 46
       go_must (
         (refine (beQ32 _ B _ _ _ u tot HT.out (by omega) (by omega) (by omega) (by omega)).mono ?_)
         rintro e w2 ⟨rfl, n2, rfl⟩)))
  all_goals (
    ((try simp only [Exit.inBlock, Exit.then]); refine bodyPost_ret (results_tmp3Q rfl _ _ _) rfl ?_)
    first
      | exact ⟨_, _, rfl, by omega, by omega, (Reads.tailQ (((HR.out.alloc hB _).drewN _)) 5 rfl (by omega)), (below_drewN ((Below.refl _ _).alloc (Nat.le_refl _) _) _)⟩
      | exact ⟨_, _, rfl, by omega, by omega, Reads.zeroQ (by omega), (below_drewN ((Below.refl _ _).alloc (Nat.le_refl _) _) _)⟩)

set_option maxHeartbeats 4000000 in
set_option maxRecDepth 100000 in
theorem ReadInt64Bytes_i4 (W : World) (B c : Nat) (ad : Addr) (n : Int) (tot : List Int) (h : Reads W B 1 (some ad) (tot.length + 5) (bs ([210, n / 16777216 % 256, n / 65536 % 256, n / 256 % 256, n % 256] ++ tot))) (hmc : tot.length + 5 ≤ c) (hcm : c ≤ maxLen) (hB : B ≤ W.heap.size) (h0 : -2147483648 ≤ n) (h1 : n < 2147483648) :
    Calls Tryd.prog 48 #[.slice (some ad) (tot.length + 5) c] W (RB .i64 n tot B W) := by
  obtain ⟨ad', hA, hlt, hc⟩ := h.2 (by omega)
  injection hA with hA
  subst hA
  have hlw : ad.block < W.heap.size := by omega
  have hm1 : tot.length + 5 ≤ 9223372036854775807 := by simp only [maxLen] at hcm; omega
  have hc1 : c ≤ 9223372036854775807 := by simp only [maxLen] at hcm; omega
  have q0 := hc 0 _ rfl
  rw [add_zeroQ] at q0
  have hld : ∀ w, (loadVar 100 ⟨1, 0, none⟩).run Tryd.prog w = .ok (.agg #[]) w := fun w => by kernel_rfl
  obtain ⟨u, hu⟩ : ∃ u, u = n % 4294967296 := ⟨_, rfl⟩
  have HT : Hid (Reads W B 1 (some ⟨ad.block, ad.off + 1, none⟩) (tot.length + 4) (bs ([u / 16777216 % 256, u / 65536 % 256, u / 256 % 256, u % 256] ++ tot))) := by
    have ht := Reads.tailQ (e := [210]) (tot := [n / 16777216 % 256, n / 65536 % 256, n / 256 % 256, n % 256] ++ tot) h 1 rfl (by omega)
    rw [show n / 16777216 % 256 = u / 16777216 % 256 by omega] at ht
    rw [show n / 65536 % 256 = u / 65536 % 256 by omega] at ht
    rw [show n / 256 % 256 = u / 256 % 256 by omega] at ht
    rw [show n % 256 = u % 256 by omega] at ht
    rw [show ([u / 16777216 % 256, u / 65536 % 256, u / 256 % 256, u % 256] ++ tot).length = tot.length + 4 by simp] at ht
    exact ht
  have hwu : IntKind.i32.wrap u = n := by rw [hu]; simp [IntKind.wrap, IntKind.bits, IntKind.signed]; omega
  have hur : 0 ≤ u ∧ u < 4294967296 := by omega
  obtain ⟨hur0, hur1⟩ := hur
  clear hu
  clear hc
  have HR := Lib.hid h
  clear h
  go_enter Tryd.func48, Tryd.ntmps48
  go_wp2_with (first
    | (go_at_call 51
       go_must (
         (refine (isfix_no _ _ (by omega) (by omega)).mono ?_)
         rintro e w' ⟨rfl, rfl⟩))
    | (go_at_call 54
       go_must (
         (refine (isnfix_calls _ _ (by omega) (by omega)).mono ?_)
         rintro e w' ⟨rfl, rfl⟩))
    | (go_at_call 46
       go_must (
         (refine (beQ32 _ B _ _ _ u tot HT.out (by omega) (by omega) (by omega) (by omega)).mono ?_)
         rintro e w2 ⟨rfl, n2, rfl⟩)))
  all_goals (
    ((try simp only [Exit.inBlock, Exit.then]); refine bodyPost_ret (results_tmp3Q rfl _ _ _) rfl ?_)
    first
      | exact ⟨_, _, rfl, by omega, by omega, (Reads.tailQ (((HR.out.alloc hB _).drewN _)) 5 rfl (by omega)), (below_drewN ((Below.refl _ _).alloc (Nat.le_refl _) _) _)⟩
      | exact ⟨_, _, rfl, by omega, by omega, Reads.zeroQ (by omega), (below_drewN ((Below.refl _ _).alloc (Nat.le_refl _) _) _)⟩)

set_option maxHeartbeats 4000000 in
set_option maxRecDepth 100000 in
theorem ReadInt64Bytes_u8 (W : World) (B c : Nat) (ad : Addr) (n : Int) (tot : List Int) (h : Reads W B 1 (some ad) (tot.length + 9) (bs ([207, n / 72057594037927936 % 256, n / 281474976710656 % 256, n / 1099511627776 % 256, n / 4294967296 % 256, n / 16777216 % 256, n / 65536 % 256, n / 256 % 256, n % 256] ++ tot))) (hmc : tot.length + 9 ≤ c) (hcm : c ≤ maxLen) (hB : B ≤ W.heap.size) (h0 : 0 ≤ n) (h1 : n < 9223372036854775808) :
    Calls Tryd.prog 48 #[.slice (some ad) (tot.length + 9) c] W (RB .i64 n tot B W) := by
  obtain ⟨ad', hA, hlt, hc⟩ := h.2 (by omega)
  injection hA with hA
  subst hA
  have hlw : ad.block < W.heap.size := by omega
  have hm1 : tot.length + 9 ≤ 9223372036854775807 := by simp only [maxLen] at hcm; omega
  have hc1 : c ≤ 9223372036854775807 := by simp only [maxLen] at hcm; omega
  have q0 := hc 0 _ rfl
  rw [add_zeroQ] at q0
  have hld : ∀ w, (loadVar 100 ⟨1, 0, none⟩).run Tryd.prog w = .ok (.agg #[]) w := fun w => by kernel_rfl
  obtain ⟨u, hu⟩ : ∃ u, u = n := ⟨_, rfl⟩
  have HT : Hid (Reads W B 1 (some ⟨ad.block, ad.off + 1, none⟩) (tot.length + 8) (bs ([u / 72057594037927936 % 256, u / 281474976710656 % 256, u / 1099511627776 % 256, u / 4294967296 % 256, u / 16777216 % 256, u / 65536 % 256, u / 256 % 256, u % 256] ++ tot))) := by
    have ht := Reads.tailQ (e := [207]) (tot := [n / 72057594037927936 % 256, n / 281474976710656 % 256, n / 1099511627776 % 256, n / 4294967296 % 256, n / 16777216 % 256, n / 65536 % 256, n / 256 % 256, n % 256] ++ tot) h 1 rfl (by omega)
    rw [show n / 72057594037927936 % 256 = u / 72057594037927936 % 256 by omega] at ht
    rw [show n / 281474976710656 % 256 = u / 281474976710656 % 256 by omega] at ht
    rw [show n / 1099511627776 % 256 = u / 1099511627776 % 256 by omega] at ht
    rw [show n / 4294967296 % 256 = u / 4294967296 % 256 by omega] at ht
    rw [show n / 16777216 % 256 = u / 16777216 % 256 by omega] at ht
    rw [show n / 65536 % 256 = u / 65536 % 256 by omega] at ht
    rw [show n / 256 % 256 = u / 256 % 256 by omega] at ht
    rw [show n % 256 = u % 256 by omega] at ht
    rw [show ([u / 72057594037927936 % 256, u / 281474976710656 % 256, u / 1099511627776 % 256, u / 4294967296 % 256, u / 16777216 % 256, u / 65536 % 256, u / 256 % 256, u % 256] ++ tot).length = tot.length + 8 by simp] at ht
    exact ht
  have hwv : IntKind.i64.wrap u = n := by rw [hu]; simp [IntKind.wrap, IntKind.bits, IntKind.signed]; omega
  have hur : 0 ≤ u ∧ u < 9223372036854775808 := by omega
  have hgt : decide (9223372036854775807 < u) = false := decide_eq_false (by omega)
  obtain ⟨hur0, hur1⟩ := hur
  clear hu
  clear hc
  have HR := Lib.hid h
  clear h
  go_enter Tryd.func48, Tryd.ntmps48
  go_wp2_with (first
    | (go_at_call 51
       go_must (
         (refine (isfix_no _ _ (by omega) (by omega)).mono ?_)
         rintro e w' ⟨rfl, rfl⟩))
    | (go_at_call 54
       go_must (
         (refine (isnfix_calls _ _ (by omega) (by omega)).mono ?_)
         rintro e w' ⟨rfl, rfl⟩))
    | (go_at_call 53
       go_must (
         (refine (beQ64 _ B _ _ _ u tot HT.out (by omega) (by omega) (by omega) (by omega)).mono ?_)
         rintro e w2 ⟨rfl, n2, rfl⟩)))
  all_goals (
    ((try simp only [Exit.inBlock, Exit.then]); refine bodyPost_ret (results_tmp3Q rfl _ _ _) rfl ?_)
    first
      | exact ⟨_, _, rfl, by omega, by omega, (Reads.tailQ (((HR.out.alloc hB _).drewN _)) 9 rfl (by omega)), (below_drewN ((Below.refl _ _).alloc (Nat.le_refl _) _) _)⟩
      | exact ⟨_, _, rfl, by omega, by omega, Reads.zeroQ (by omega), (below_drewN ((Below.refl _ _).alloc (Nat.le_refl _) _) _)⟩)

set_option maxHeartbeats 4000000 in
set_option maxRecDepth 100000 in
theorem ReadInt64Bytes_i8 (W : World) (B c : Nat) (ad : Addr) (n : Int) (tot : List Int) (h : Reads W B 1 (some ad) (tot.length + 9) (bs ([211, n / 72057594037927936 % 256, n / 281474976710656 % 256, n / 1099511627776 % 256, n / 4294967296 % 256, n / 16777216 % 256, n / 65536 % 256, n / 256 % 256, n % 256] ++ tot))) (hmc : tot.length + 9 ≤ c) (hcm : c ≤ maxLen) (hB : B ≤ W.heap.size) (h0 : -9223372036854775808 ≤ n) (h1 : n < 9223372036854775808) :
    Calls Tryd.prog 48 #[.slice (some ad) (tot.length + 9) c] W (RB .i64 n tot B W) := by
  obtain ⟨ad', hA, hlt, hc⟩ := h.2 (by omega)
  injection hA with hA
  subst hA
  have hlw : ad.block < W.heap.size := by omega
  have hm1 : tot.length + 9 ≤ 9223372036854775807 := by simp only [maxLen] at hcm; omega
  have hc1 : c ≤ 9223372036854775807 := by simp only [maxLen] at hcm; omega
  have q0 := hc 0 _ rfl
  rw [add_zeroQ] at q0
  have hld : ∀ w, (loadVar 100 ⟨1, 0, none⟩).run Tryd.prog w = .ok (.agg #[]) w := fun w => by kernel_rfl
  obtain ⟨u, hu⟩ : ∃ u, u = n % 18446744073709551616 := ⟨_, rfl⟩
  have HT : Hid (Reads W B 1 (some ⟨ad.block, ad.off + 1, none⟩) (tot.length + 8) (bs ([u / 72057594037927936 % 256, u / 281474976710656 % 256, u / 1099511627776 % 256, u / 4294967296 % 256, u / 16777216 % 256, u / 65536 % 256, u / 256 % 256, u % 256] ++ tot))) := by
    have ht := Reads.tailQ (e := [211]) (tot := [n / 72057594037927936 % 256, n / 281474976710656 % 256, n / 1099511627776 % 256, n / 4294967296 % 256, n / 16777216 % 256, n / 65536 % 256, n / 256 % 256, n % 256] ++ tot) h 1 rfl (by omega)
    rw [show n / 72057594037927936 % 256 = u / 72057594037927936 % 256 by omega] at ht
    rw [show n / 281474976710656 % 256 = u / 281474976710656 % 256 by omega] at ht
    rw [show n / 1099511627776 % 256 = u / 1099511627776 % 256 by omega] at ht
    rw [show n / 4294967296 % 256 = u / 4294967296 % 256 by omega] at ht
    rw [show n / 16777216 % 256 = u / 16777216 % 256 by omega] at ht
    rw [show n / 65536 % 256 = u / 65536 % 256 by omega] at ht
    rw [show n / 256 % 256 = u / 256 % 256 by omega] at ht
    rw [show n % 256 = u % 256 by omega] at ht
    rw [show ([u / 72057594037927936 % 256, u / 281474976710656 % 256, u / 1099511627776 % 256, u / 4294967296 % 256, u / 16777216 % 256, u / 65536 % 256, u / 256 % 256, u % 256] ++ tot).length = tot.length + 8 by simp] at ht
    exact ht
  have hwu : IntKind.i64.wrap u = n := by rw [hu]; simp [IntKind.wrap, IntKind.bits, IntKind.signed]; omega
  have hur : 0 ≤ u ∧ u < 18446744073709551616 := by omega
  obtain ⟨hur0, hur1⟩ := hur
  clear hu
  clear hc
  have HR := Lib.hid h
  clear h
  go_enter Tryd.func48, Tryd.ntmps48
  go_wp2_with (first
    | (go_at_call 51
       go_must (
         (refine (isfix_no _ _ (by omega) (by omega)).mono ?_)
         rintro e w' ⟨rfl, rfl⟩))
    | (go_at_call 54
       go_must (
         (refine (isnfix_calls _ _ (by omega) (by omega)).mono ?_)
         rintro e w' ⟨rfl, rfl⟩))
    | (go_at_call 53
       go_must (
         (refine (beQ64 _ B _ _ _ u tot HT.out (by omega) (by omega) (by omega) (by omega)).mono ?_)
         rintro e w2 ⟨rfl, n2, rfl⟩)))
  all_goals (
    ((try simp only [Exit.inBlock, Exit.then]); refine bodyPost_ret (results_tmp3Q rfl _ _ _) rfl ?_)
    first
      | exact ⟨_, _, rfl, by omega, by omega, (Reads.tailQ (((HR.out.alloc hB _).drewN _)) 9 rfl (by omega)), (below_drewN ((Below.refl _ _).alloc (Nat.le_refl _) _) _)⟩
      | exact ⟨_, _, rfl, by omega, by omega, Reads.zeroQ (by omega), (below_drewN ((Below.refl _ _).alloc (Nat.le_refl _) _) _)⟩)

set_option maxHeartbeats 4000000 in
set_option maxRecDepth 100000 in
theorem ReadInt64Bytes_s204 (W : World) (B c : Nat) (ad : Addr) (n : Int) (tot : List Int) (h : Reads W B 1 (some ad) (tot.length + 1) (bs ([204] ++ tot))) (hmc : tot.length + 1 ≤ c) (hcm : c ≤ maxLen) (hB : B ≤ W.heap.size) (hl : tot.length < 1) (ts : TypeId) (vs : Value) (hsh : W.cell? ⟨0, 0, none⟩ = some (.iface ts vs))  :
    Calls Tryd.prog 48 #[.slice (some ad) (tot.length + 1) c] W (RE .i64 W) := by
  obtain ⟨ad', hA, hlt, hc⟩ := h.2 (by omega)
  injection hA with hA
  subst hA
  have hlw : ad.block < W.heap.size := by omega
  have hm1 : tot.length + 1 ≤ 9223372036854775807 := by simp only [maxLen] at hcm; omega
  have hc1 : c ≤ 9223372036854775807 := by simp only [maxLen] at hcm; omega
  have q0 := hc 0 _ rfl
  rw [add_zeroQ] at q0
  clear hc
  have HR := Lib.hid h
  clear h
  go_enter Tryd.func48, Tryd.ntmps48
  go_wp2_with (first
    | (go_at_call 51
       go_must (
         (refine (isfix_no _ _ (by omega) (by omega)).mono ?_)
         rintro e w' ⟨rfl, rfl⟩))
    | (go_at_call 54
       go_must (
         (refine (isnfix_calls _ _ (by omega) (by omega)).mono ?_)
         rintro e w' ⟨rfl, rfl⟩)))
  all_goals (
    ((try simp only [Exit.inBlock, Exit.then]); refine bodyPost_ret (results_tmp3Q rfl _ _ _) rfl ?_)
    exact ⟨⟨_, _, rfl⟩, Below.refl _ _⟩)

set_option maxHeartbeats 4000000 in
set_option maxRecDepth 100000 in
theorem ReadInt64Bytes_s208 (W : World) (B c : Nat) (ad : Addr) (n : Int) (tot : List Int) (h : Reads W B 1 (some ad) (tot.length + 1) (bs ([208] ++ tot))) (hmc : tot.length + 1 ≤ c) (hcm : c ≤ maxLen) (hB : B ≤ W.heap.size) (hl : tot.length < 1) (ts : TypeId) (vs : Value) (hsh : W.cell? ⟨0, 0, none⟩ = some (.iface ts vs))  :
    Calls Tryd.prog 48 #[.slice (some ad) (tot.length + 1) c] W (RE .i64 W) := by
  obtain ⟨ad', hA, hlt, hc⟩ := h.2 (by omega)
  injection hA with hA
  subst hA
  have hlw : ad.block < W.heap.size := by omega
  have hm1 : tot.length + 1 ≤ 9223372036854775807 := by simp only [maxLen] at hcm; omega
  have hc1 : c ≤ 9223372036854775807 := by simp only [maxLen] at hcm; omega
  have q0 := hc 0 _ rfl
  rw [add_zeroQ] at q0
  clear hc
  have HR := Lib.hid h
  clear h
  go_enter Tryd.func48, Tryd.ntmps48
  go_wp2_with (first
    | (go_at_call 51
       go_must (
         (refine (isfix_no _ _ (by omega) (by omega)).mono ?_)
         rintro e w' ⟨rfl, rfl⟩))
    | (go_at_call 54
       go_must (
         (refine (isnfix_calls _ _ (by omega) (by omega)).mono ?_)
         rintro e w' ⟨rfl, rfl⟩)))
  all_goals (
    ((try simp only [Exit.inBlock, Exit.then]); refine bodyPost_ret (results_tmp3Q rfl _ _ _) rfl ?_)
    exact ⟨⟨_, _, rfl⟩, Below.refl _ _⟩)

set_option maxHeartbeats 4000000 in
set_option maxRecDepth 100000 in
theorem ReadInt64Bytes_s205 (W : World) (B c : Nat) (ad : Addr) (n : Int) (tot : List Int) (h : Reads W B 1 (some ad) (tot.length + 1) (bs ([205] ++ tot))) (hmc : tot.length + 1 ≤ c) (hcm : c ≤ maxLen) (hB : B ≤ W.heap.size) (hl : tot.length < 2) (ts : TypeId) (vs : Value) (hsh : W.cell? ⟨0, 0, none⟩ = some (.iface ts vs))  :
    Calls Tryd.prog 48 #[.slice (some ad) (tot.length + 1) c] W (RE .i64 W) := by
  obtain ⟨ad', hA, hlt, hc⟩ := h.2 (by omega)
  injection hA with hA
  subst hA
  have hlw : ad.block < W.heap.size := by omega
  have hm1 : tot.length + 1 ≤ 9223372036854775807 := by simp only [maxLen] at hcm; omega
  have hc1 : c ≤ 9223372036854775807 := by simp only [maxLen] at hcm; omega
  have q0 := hc 0 _ rfl
  rw [add_zeroQ] at q0
  clear hc
  have HR := Lib.hid h
  clear h
  go_enter Tryd.func48, Tryd.ntmps48
  go_wp2_with (first
    | (go_at_call 51
       go_must (
         (refine (isfix_no _ _ (by omega) (by omega)).mono ?_)
         rintro e w' ⟨rfl, rfl⟩))
    | (go_at_call 54
       go_must (
         (refine (isnfix_calls _ _ (by omega) (by omega)).mono ?_)
         rintro e w' ⟨rfl, rfl⟩)))
  all_goals (
    ((try simp only [Exit.inBlock, Exit.then]); refine bodyPost_ret (results_tmp3Q rfl _ _ _) rfl ?_)
    exact ⟨⟨_, _, rfl⟩, Below.refl _ _⟩)

set_option maxHeartbeats 4000000 in
set_option maxRecDepth 100000 in
theorem ReadInt64Bytes_s209 (W : World) (B c : Nat) (ad : Addr) (n : Int) (tot : List Int) (h : Reads W B 1 (some ad) (tot.length + 1) (bs ([209] ++ tot))) (hmc : tot.length + 1 ≤ c) (hcm : c ≤ maxLen) (hB : B ≤ W.heap.size) (hl : tot.length < 2) (ts : TypeId) (vs : Value) (hsh : W.cell? ⟨0, 0, none⟩ = some (.iface ts vs))  :
    Calls Tryd.prog 48 #[.slice (some ad) (tot.length + 1) c] W (RE .i64 W) := by
  obtain ⟨ad', hA, hlt, hc⟩ := h.2 (by omega)
  injection hA with hA
  subst hA
  have hlw : ad.block < W.heap.size := by omega
  have hm1 : tot.length + 1 ≤ 9223372036854775807 := by simp only [maxLen] at hcm; omega
  have hc1 : c ≤ 9223372036854775807 := by simp only [maxLen] at hcm; omega
  have q0 := hc 0 _ rfl
  rw [add_zeroQ] at q0
  clear hc
  have HR := Lib.hid h
  clear h
  go_enter Tryd.func48, Tryd.ntmps48
  go_wp2_with (first
    | (go_at_call 51
       go_must (
         (refine (isfix_no _ _ (by omega) (by omega)).mono ?_)
         rintro e w' ⟨rfl, rfl⟩))
    | (go_at_call 54
       go_must (
         (refine (isnfix_calls _ _ (by omega) (by omega)).mono ?_)
         rintro e w' ⟨rfl, rfl⟩)))
  all_goals (
    ((try simp only [Exit.inBlock, Exit.then]); refine bodyPost_ret (results_tmp3Q rfl _ _ _) rfl ?_)
    exact ⟨⟨_, _, rfl⟩, Below.refl _ _⟩)

set_option maxHeartbeats 4000000 in
set_option maxRecDepth 100000 in
theorem ReadInt64Bytes_s206 (W : World) (B c : Nat) (ad : Addr) (n : Int) (tot : List Int) (h : Reads W B 1 (some ad) (tot.length + 1) (bs ([206] ++ tot))) (hmc : tot.length + 1 ≤ c) (hcm : c ≤ maxLen) (hB : B ≤ W.heap.size) (hl : tot.length < 4) (ts : TypeId) (vs : Value) (hsh : W.cell? ⟨0, 0, none⟩ = some (.iface ts vs))  :
    Calls Tryd.prog 48 #[.slice (some ad) (tot.length + 1) c] W (RE .i64 W) := by
  obtain ⟨ad', hA, hlt, hc⟩ := h.2 (by omega)
  injection hA with hA
  subst hA
  have hlw : ad.block < W.heap.size := by omega
  have hm1 : tot.length + 1 ≤ 9223372036854775807 := by simp only [maxLen] at hcm; omega
  have hc1 : c ≤ 9223372036854775807 := by simp only [maxLen] at hcm; omega
  have q0 := hc 0 _ rfl
  rw [add_zeroQ] at q0
  clear hc
  have HR := Lib.hid h
  clear h
  go_enter Tryd.func48, Tryd.ntmps48
  go_wp2_with (first
    | (go_at_call 51
       go_must (
         (refine (isfix_no _ _ (by omega) (by omega)).mono ?_)
         rintro e w' ⟨rfl, rfl⟩))
    | (go_at_call 54
       go_must (
         (refine (isnfix_calls _ _ (by omega) (by omega)).mono ?_)
         rintro e w' ⟨rfl, rfl⟩)))
  all_goals (
    ((try simp only [Exit.inBlock, Exit.then]); refine bodyPost_ret (results_tmp3Q rfl _ _ _) rfl ?_)
    exact ⟨⟨_, _, rfl⟩, Below.refl _ _⟩)

set_option maxHeartbeats 4000000 in
set_option maxRecDepth 100000 in
theorem ReadInt64Bytes_s210 (W : World) (B c : Nat) (ad : Addr) (n : Int) (tot : List Int) (h : Reads W B 1 (some ad) (tot.length + 1) (bs ([210] ++ tot))) (hmc : tot.length + 1 ≤ c) (hcm : c ≤ maxLen) (hB : B ≤ W.heap.size) (hl : tot.length < 4) (ts : TypeId) (vs : Value) (hsh : W.cell? ⟨0, 0, none⟩ = some (.iface ts vs))  :
    Calls Tryd.prog 48 #[.slice (some ad) (tot.length + 1) c] W (RE .i64 W) := by
  obtain ⟨ad', hA, hlt, hc⟩ := h.2 (by omega)
  injection hA with hA
  subst hA
  have hlw : ad.block < W.heap.size := by omega
  have hm1 : tot.length + 1 ≤ 9223372036854775807 := by simp only [maxLen] at hcm; omega
  have hc1 : c ≤ 9223372036854775807 := by simp only [maxLen] at hcm; omega
  have q0 := hc 0 _ rfl
  rw [add_zeroQ] at q0
  clear hc
  have HR := Lib.hid h
  clear h
  go_enter Tryd.func48, Tryd.ntmps48
  go_wp2_with (first
    | (go_at_call 51
       go_must (
         (refine (isfix_no _ _ (by omega) (by omega)).mono ?_)
         rintro e w' ⟨rfl, rfl⟩))
    | (go_at_call 54
       go_must (
         (refine (isnfix_calls _ _ (by omega) (by omega)).mono ?_)
         rintro e w' ⟨rfl, rfl⟩)))
  all_goals (
    ((try simp only [Exit.inBlock, Exit.then]); refine bodyPost_ret (results_tmp3Q rfl _ _ _) rfl ?_)
    exact ⟨⟨_, _, rfl⟩, Below.refl _ _⟩)

set_option maxHeartbeats 4000000 in
set_option maxRecDepth 100000 in
theorem ReadInt64Bytes_s207 (W : World) (B c : Nat) (ad : Addr) (n : Int) (tot : List Int) (h : Reads W B 1 (some ad) (tot.length + 1) (bs ([207] ++ tot))) (hmc : tot.length + 1 ≤ c) (hcm : c ≤ maxLen) (hB : B ≤ W.heap.size) (hl : tot.length < 8) (ts : TypeId) (vs : Value) (hsh : W.cell? ⟨0, 0, none⟩ = some (.iface ts vs))  :
    Calls Tryd.prog 48 #[.slice (some ad) (tot.length + 1) c] W (RE .i64 W) := by
  obtain ⟨ad', hA, hlt, hc⟩ := h.2 (by omega)
  injection hA with hA
  subst hA
  have hlw : ad.block < W.heap.size := by omega
  have hm1 : tot.length + 1 ≤ 9223372036854775807 := by simp only [maxLen] at hcm; omega
  have hc1 : c ≤ 9223372036854775807 := by simp only [maxLen] at hcm; omega
  have q0 := hc 0 _ rfl
  rw [add_zeroQ] at q0
  clear hc
  have HR := Lib.hid h
  clear h
  go_enter Tryd.func48, Tryd.ntmps48
  go_wp2_with (first
    | (go_at_call 51
       go_must (
         (refine (isfix_no _ _ (by omega) (by omega)).mono ?_)
         rintro e w' ⟨rfl, rfl⟩))
    | (go_at_call 54
       go_must (
         (refine (isnfix_calls _ _ (by omega) (by omega)).mono ?_)
         rintro e w' ⟨rfl, rfl⟩)))
  all_goals (
    ((try simp only [Exit.inBlock, Exit.then]); refine bodyPost_ret (results_tmp3Q rfl _ _ _) rfl ?_)
    exact ⟨⟨_, _, rfl⟩, Below.refl _ _⟩)

set_option maxHeartbeats 4000000 in
set_option maxRecDepth 100000 in
theorem ReadInt64Bytes_s211 (W : World) (B c : Nat) (ad : Addr) (n : Int) (tot : List Int) (h : Reads W B 1 (some ad) (tot.length + 1) (bs ([211] ++ tot))) (hmc : tot.length + 1 ≤ c) (hcm : c ≤ maxLen) (hB : B ≤ W.heap.size) (hl : tot.length < 8) (ts : TypeId) (vs : Value) (hsh : W.cell? ⟨0, 0, none⟩ = some (.iface ts vs))  :
    Calls Tryd.prog 48 #[.slice (some ad) (tot.length + 1) c] W (RE .i64 W) := by
  obtain ⟨ad', hA, hlt, hc⟩ := h.2 (by omega)
  injection hA with hA
  subst hA
  have hlw : ad.block < W.heap.size := by omega
  have hm1 : tot.length + 1 ≤ 9223372036854775807 := by simp only [maxLen] at hcm; omega
  have hc1 : c ≤ 9223372036854775807 := by simp only [maxLen] at hcm; omega
  have q0 := hc 0 _ rfl
  rw [add_zeroQ] at q0
  clear hc
  have HR := Lib.hid h
  clear h
  go_enter Tryd.func48, Tryd.ntmps48
  go_wp2_with (first
    | (go_at_call 51
       go_must (
         (refine (isfix_no _ _ (by omega) (by omega)).mono ?_)
         rintro e w' ⟨rfl, rfl⟩))
    | (go_at_call 54
       go_must (
         (refine (isnfix_calls _ _ (by omega) (by omega)).mono ?_)
         rintro e w' ⟨rfl, rfl⟩)))
  all_goals (
    ((try simp only [Exit.inBlock, Exit.then]); refine bodyPost_ret (results_tmp3Q rfl _ _ _) rfl ?_)
    exact ⟨⟨_, _, rfl⟩, Below.refl _ _⟩)
end Go.Proofs.YtfhaddnacdjpoaaDoor
