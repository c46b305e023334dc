/- msgp.ReadArrayHeaderBytes at its three forms. PRINTED by wip/gensn.py. -/
import Derived.Test.YtfhaddnacdjpoaaDoorPs
import Derived.Test.YtfhaddnacdjpoaaDoorPt
namespace Go.Proofs.YtfhaddnacdjpoaaDoor
open Go.RowKit
set_option linter.unusedVariables false

theorem isarr_yes (w : World) (n : Int) (h0 : 0 ≤ n) (h1 : n ≤ 15) : Calls Tryd.prog 43 #[.int .u8 (144 + n)] w fun e w' => e = .returned (.bool true) ∧ w = w' := by
  have hb : bits .and .u8 (144 + n) 240 = 144 := by
    have := (by decide : ∀ k : Fin 16, bits .and .u8 (144 + (k.val : Int)) 240 = 144) ⟨n.toNat, by omega⟩
    rwa [show ((n.toNat : Nat) : Int) = n by omega] at this
  go_enter Tryd.func43, Tryd.ntmps43
  go_wp2
  go_ret
  exact ⟨by first | rfl | simp [hb], rfl⟩
theorem rarr_calls (w : World) (n : Int) (h0 : 0 ≤ n) (h1 : n ≤ 15) : Calls Tryd.prog 44 #[.int .u8 (144 + n)] w fun e w' => e = .returned (.int .u8 n) ∧ w = w' := by
  have hb : bits .and .u8 (144 + n) 15 = n := by
    have := (by decide : ∀ k : Fin 16, bits .and .u8 (144 + (k.val : Int)) 15 = (k.val : Int)) ⟨n.toNat, by omega⟩
    rwa [show ((n.toNat : Nat) : Int) = n by omega] at this
  go_enter Tryd.func44, Tryd.ntmps44
  go_wp2
  go_ret
  exact ⟨by first | rfl | simp [hb], rfl⟩
theorem isarr_no (w : World) (b : Int) (h : b = 220 ∨ b = 221) : Calls Tryd.prog 43 #[.int .u8 b] w fun e w' => e = .returned (.bool false) ∧ w = w' := by
  have hb : bits .and .u8 b 240 = 208 := by rcases h with rfl | rfl <;> rfl
  go_enter Tryd.func43, Tryd.ntmps43
  go_wp2
  go_ret
  exact ⟨by first | rfl | simp [hb], rfl⟩

set_option maxHeartbeats 4000000 in
set_option maxRecDepth 100000 in
theorem ReadArrayHeader_fix (W : World) (B c : Nat) (ad : Addr) (n : Int) (tot : List Int) (h : Reads W B 1 (some ad) (tot.length + 1) (bs ([144 + n] ++ tot))) (hmc : tot.length + 1 ≤ c) (hcm : c ≤ maxLen) (hB : B ≤ W.heap.size) (h0 : 0 ≤ n) (h1 : n ≤ 15) :
    Calls Tryd.prog 30 #[.slice (some ad) (tot.length + 1) c] W (RB .u32 n tot B W) := by
  obtain ⟨ad', hA, hlt, hc⟩ := h.2 (by omega)
  injection hA with hA
  subst hA
  have hlw : ad.block < W.heap.size := by omega
  have hm1 : tot.length + 1 ≤ 9223372036854775807 := by simp only [maxLen] at hcm; omega
  have hc1 : c ≤ 9223372036854775807 := by simp only [maxLen] at hcm; omega
  have q0 := hc 0 _ rfl
  rw [add_zeroQ] at q0
  clear hc
  have HR := Lib.hid h
  clear h
  have hw32 : IntKind.u32.wrap n = n := by rw [IntKind.wrap_u32]; omega
  go_enter Tryd.func30, Tryd.ntmps30
  go_wp2_with (first
    | (go_at_call 43
       go_must (
         (refine (isarr_yes _ n h0 h1).mono ?_)
         rintro e w' ⟨rfl, rfl⟩))
    | (go_at_call 44
       go_must (
         (refine (rarr_calls _ n h0 h1).mono ?_)
         rintro e w' ⟨rfl, rfl⟩)))
  all_goals (
    ((try simp only [Exit.inBlock, Exit.then]); refine bodyPost_ret (results_tmp3Q rfl _ _ _) rfl ?_)
    first
      | exact ⟨_, _, rfl, by omega, by omega, (Reads.tailQ HR.out 1 rfl (by omega)), (Below.refl _ _)⟩
      | exact ⟨_, _, rfl, by omega, by omega, Reads.zeroQ (by omega), (Below.refl _ _)⟩)

set_option maxHeartbeats 4000000 in
set_option maxRecDepth 100000 in
theorem ReadArrayHeader_220 (W : World) (B c : Nat) (ad : Addr) (n : Int) (tot : List Int) (h : Reads W B 1 (some ad) (tot.length + 3) (bs ([220, n / 256 % 256, n % 256] ++ tot))) (hmc : tot.length + 3 ≤ c) (hcm : c ≤ maxLen) (hB : B ≤ W.heap.size) (h0 : 0 ≤ n) (h1 : n < 65536) :
    Calls Tryd.prog 30 #[.slice (some ad) (tot.length + 3) c] W (RB .u32 n tot B W) := by
  obtain ⟨ad', hA, hlt, hc⟩ := h.2 (by omega)
  injection hA with hA
  subst hA
  have hlw : ad.block < W.heap.size := by omega
  have hm1 : tot.length + 3 ≤ 9223372036854775807 := by simp only [maxLen] at hcm; omega
  have hc1 : c ≤ 9223372036854775807 := by simp only [maxLen] at hcm; omega
  have q0 := hc 0 _ rfl
  rw [add_zeroQ] at q0
  have hld : ∀ w, (loadVar 100 ⟨1, 0, none⟩).run Tryd.prog w = .ok (.agg #[]) w := fun w => by kernel_rfl
  obtain ⟨u, hu⟩ : ∃ u, u = n := ⟨_, rfl⟩
  have HT : Hid (Reads W B 1 (some ⟨ad.block, ad.off + 1, none⟩) (tot.length + 2) (bs ([u / 256 % 256, u % 256] ++ tot))) := by
    have ht := Reads.tailQ (e := [220]) (tot := [n / 256 % 256, n % 256] ++ tot) h 1 rfl (by omega)
    rw [show n / 256 % 256 = u / 256 % 256 by omega] at ht
    rw [show n % 256 = u % 256 by omega] at ht
    rw [show ([u / 256 % 256, u % 256] ++ tot).length = tot.length + 2 by simp] at ht
    exact ht
  have hur : 0 ≤ u ∧ u < 65536 := by omega
  obtain ⟨hur0, hur1⟩ := hur
  have hun : u = n := hu
  clear hu
  clear hc
  have HR := Lib.hid h
  clear h
  have hw32 : IntKind.u32.wrap u = u := by rw [IntKind.wrap_u32]; omega
  go_enter Tryd.func30, Tryd.ntmps30
  go_wp2_with (first
    | (go_at_call 43
       go_must (
         (refine (isarr_no _ _ (by omega)).mono ?_)
         rintro e w' ⟨rfl, rfl⟩))
    | (go_at_call 45
       go_must (
         (refine (beQ16 _ B _ _ _ u tot HT.out (by omega) (by omega) (by omega) (by omega)).mono ?_)
         rintro e w2 ⟨rfl, n2, rfl⟩)))
  all_goals (
    ((try simp only [Exit.inBlock, Exit.then]); refine bodyPost_ret (results_tmp3Q rfl _ _ _) rfl ?_)
    first
      | exact ⟨_, _, rfl, by omega, by omega, (Reads.tailQ (((HR.out.alloc hB _).drewN _)) 3 rfl (by omega)), (below_drewN ((Below.refl _ _).alloc (Nat.le_refl _) _) _)⟩
      | exact ⟨_, _, rfl, by omega, by omega, Reads.zeroQ (by omega), (below_drewN ((Below.refl _ _).alloc (Nat.le_refl _) _) _)⟩)

set_option maxHeartbeats 4000000 in
set_option maxRecDepth 100000 in
theorem ReadArrayHeader_221 (W : World) (B c : Nat) (ad : Addr) (n : Int) (tot : List Int) (h : Reads W B 1 (some ad) (tot.length + 5) (bs ([221, n / 16777216 % 256, n / 65536 % 256, n / 256 % 256, n % 256] ++ tot))) (hmc : tot.length + 5 ≤ c) (hcm : c ≤ maxLen) (hB : B ≤ W.heap.size) (h0 : 0 ≤ n) (h1 : n < 4294967296) :
    Calls Tryd.prog 30 #[.slice (some ad) (tot.length + 5) c] W (RB .u32 n tot B W) := by
  obtain ⟨ad', hA, hlt, hc⟩ := h.2 (by omega)
  injection hA with hA
  subst hA
  have hlw : ad.block < W.heap.size := by omega
  have hm1 : tot.length + 5 ≤ 9223372036854775807 := by simp only [maxLen] at hcm; omega
  have hc1 : c ≤ 9223372036854775807 := by simp only [maxLen] at hcm; omega
  have q0 := hc 0 _ rfl
  rw [add_zeroQ] at q0
  have hld : ∀ w, (loadVar 100 ⟨1, 0, none⟩).run Tryd.prog w = .ok (.agg #[]) w := fun w => by kernel_rfl
  obtain ⟨u, hu⟩ : ∃ u, u = n := ⟨_, rfl⟩
  have HT : Hid (Reads W B 1 (some ⟨ad.block, ad.off + 1, none⟩) (tot.length + 4) (bs ([u / 16777216 % 256, u / 65536 % 256, u / 256 % 256, u % 256] ++ tot))) := by
    have ht := Reads.tailQ (e := [221]) (tot := [n / 16777216 % 256, n / 65536 % 256, n / 256 % 256, n % 256] ++ tot) h 1 rfl (by omega)
    rw [show n / 16777216 % 256 = u / 16777216 % 256 by omega] at ht
    rw [show n / 65536 % 256 = u / 65536 % 256 by omega] at ht
    rw [show n / 256 % 256 = u / 256 % 256 by omega] at ht
    rw [show n % 256 = u % 256 by omega] at ht
    rw [show ([u / 16777216 % 256, u / 65536 % 256, u / 256 % 256, u % 256] ++ tot).length = tot.length + 4 by simp] at ht
    exact ht
  have hur : 0 ≤ u ∧ u < 4294967296 := by omega
  obtain ⟨hur0, hur1⟩ := hur
  have hun : u = n := hu
  clear hu
  clear hc
  have HR := Lib.hid h
  clear h
  have hw32 : IntKind.u32.wrap u = u := by rw [IntKind.wrap_u32]; omega
  go_enter Tryd.func30, Tryd.ntmps30
  go_wp2_with (first
    | (go_at_call 43
       go_must (
         (refine (isarr_no _ _ (by omega)).mono ?_)
         rintro e w' ⟨rfl, rfl⟩))
    | (go_at_call 46
       go_must (
         (refine (beQ32 _ B _ _ _ u tot HT.out (by omega) (by omega) (by omega) (by omega)).mono ?_)
         rintro e w2 ⟨rfl, n2, rfl⟩)))
  all_goals (
    ((try simp only [Exit.inBlock, Exit.then]); refine bodyPost_ret (results_tmp3Q rfl _ _ _) rfl ?_)
    first
      | exact ⟨_, _, rfl, by omega, by omega, (Reads.tailQ (((HR.out.alloc hB _).drewN _)) 5 rfl (by omega)), (below_drewN ((Below.refl _ _).alloc (Nat.le_refl _) _) _)⟩
      | exact ⟨_, _, rfl, by omega, by omega, Reads.zeroQ (by omega), (below_drewN ((Below.refl _ _).alloc (Nat.le_refl _) _) _)⟩)

end Go.Proofs.YtfhaddnacdjpoaaDoor
