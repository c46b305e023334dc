/- ReadStringZC at every form, ReadStringAsBytes, GetTextBytes. PRINTED by wip/genuf.py. -/
import Derived.Test.YtlpnaifagiddlaaDoorPz
import Derived.Test.YtlpnaifagiddlaaDoorBit
namespace Go.Proofs.YtlpnaifagiddlaaDoor
open Go.RowKit
set_option linter.unusedVariables false

theorem and224b : ∀ r : Fin 256, (bits .and .u8 ((r.val : Nat) : Int) 224 == 160) = (decide (160 ≤ r.val) && decide (r.val < 192)) := by decide +kernel
theorem isstr_yes (w : World) (b : Int) (h0 : 160 ≤ b) (h1 : b < 192) : Calls Tryd.prog 62 #[.int .u8 b] w fun e w' => e = .returned (.bool true) ∧ w = w' := by
  have hd : (bits .and .u8 b 224 == 160) = true := by
    have := and224b ⟨b.toNat, by omega⟩
    dsimp only at this
    have e : ((b.toNat : Nat) : Int) = b := by omega
    rw [e] at this
    rw [this, decide_eq_true (show 160 ≤ b.toNat by omega), decide_eq_true (show b.toNat < 192 by omega)]
    rfl
  go_enter Tryd.func62, Tryd.ntmps62
  go_wp2
  go_ret
  exact ⟨by first | rfl | simp [hd], rfl⟩
theorem isstr_no (w : World) (b : Int) (h0 : 0 ≤ b) (h1 : b < 256) (h2 : b < 160 ∨ 192 ≤ b) : Calls Tryd.prog 62 #[.int .u8 b] w fun e w' => e = .returned (.bool false) ∧ w = w' := by
  have hd : (bits .and .u8 b 224 == 160) = false := by
    have := and224b ⟨b.toNat, by omega⟩
    dsimp only at this
    have e : ((b.toNat : Nat) : Int) = b := by omega
    rw [e] at this
    rw [this]
    rcases h2 with h | h
    · rw [decide_eq_false (show ¬ 160 ≤ b.toNat by omega)]; rfl
    · rw [decide_eq_false (show ¬ b.toNat < 192 by omega)]; simp
  go_enter Tryd.func62, Tryd.ntmps62
  go_wp2
  go_ret
  exact ⟨by first | rfl | simp [hd], rfl⟩
theorem rstr_calls (w : World) (n : Nat) (h1 : n < 32) : Calls Tryd.prog 63 #[.int .u8 (160 + (n : Int))] w fun e w' => e = .returned (.int .u8 (n : Int)) ∧ w = w' := by
  have hd : bits .and .u8 (160 + (n : Int)) 31 = n := by rw [and31 _ (by omega) (by omega)]; omega
  go_enter Tryd.func63, Tryd.ntmps63
  go_wp2
  go_ret
  exact ⟨by first | rfl | simp [hd], rfl⟩
/-- A text is read; what stands behind it is handed on. -/
def RZ (body tot : List Int) (B : Nat) (w : World) (e : Ending) (w' : World) : Prop :=
  ∃ A1 c1 A2 c2, e = .returned (.tuple #[.slice A1 body.length c1, .slice A2 tot.length c2, .nilIface]) ∧ Reads w' B 1 A1 body.length (bs body) ∧ Reads w' B 1 A2 tot.length (bs tot) ∧ Below w.heap.size w w'
def RZE (w : World) (e : Ending) (w' : World) : Prop :=
  (∃ A1 m1 c1 t v, e = .returned (.tuple #[.slice none 0 0, .slice A1 m1 c1, .iface t v])) ∧ Below w.heap.size w w'
theorem Reads.preQ {w : World} {B m : Nat} {A : Option Addr} {l1 l2 : List Int} (h : Reads w B 1 A m (bs (l1 ++ l2))) : Reads w B 1 A l1.length (bs l1) := by
  have hm : m = l1.length + l2.length := by have := h.1; simp [bs] at this; omega
  refine ⟨by simp [bs], fun hn => ?_⟩
  obtain ⟨ad, hA, hb, hc⟩ := h.2 (by omega)
  refine ⟨ad, hA, hb, fun j u hu => hc j u ?_⟩
  have hj : j < (bs l1).length := by
    rcases Nat.lt_or_ge j (bs l1).length with hl | hl
    · exact hl
    · rw [List.getElem?_eq_none hl] at hu; cases hu
  rw [bs_append, List.getElem?_append_left hj]
  exact hu
theorem Reads.tail2Q {w : World} {B m : Nat} {ad : Addr} {e body tot : List Int} (h : Reads w B 1 (some ad) m (bs (e ++ (body ++ tot)))) (k : Nat) (hk : k = e.length) (h0 : 0 < k) : Reads w B 1 (some ⟨ad.block, ad.off + k + body.length, none⟩) tot.length (bs tot) := by
  have h1 : Reads w B 1 (some ad) m (bs ((e ++ body) ++ tot)) := by rw [List.append_assoc]; exact h
  have h2 := Reads.tailQ h1 (k + body.length) (by rw [List.length_append, hk]) (by omega)
  rwa [← Nat.add_assoc] at h2

set_option maxHeartbeats 4000000 in
set_option maxRecDepth 100000 in
theorem ZC_fix (W : World) (B c n : Nat) (ad : Addr) (rest : List Int) (h : Reads W B 1 (some ad) (rest.length + 1) (bs ([160 + (n : Int)] ++ rest))) (hmc : rest.length + 1 ≤ c) (hcm : c ≤ maxLen) (hB : B ≤ W.heap.size) (hr : n < 32) (body tot : List Int) (hb : n = body.length) (hrest : rest = body ++ tot) :
    Calls Tryd.prog 51 #[.slice (some ad) (rest.length + 1) c] W (RZ body tot B W) := by
  obtain ⟨ad', hA, hlt', hc⟩ := h.2 (by omega)
  injection hA with hA
  subst hA
  have hlw : ad.block < W.heap.size := by omega
  have hm1 : rest.length + 1 ≤ 9223372036854775807 := by simp only [maxLen] at hcm; omega
  have hc1 : c ≤ 9223372036854775807 := by simp only [maxLen] at hcm; omega
  have q0 := hc 0 _ rfl
  rw [add_zeroQ] at q0
  have hrl0 : rest.length = body.length + tot.length := by rw [hrest, List.length_append]
  subst hb
  rw [hrl0] at h hmc hm1 ⊢
  have dlt : decide ((body.length : Int) + (tot.length : Int) < (body.length : Int)) = false := decide_eq_false (by omega)
  clear hc
  subst hrest
  have HR := Lib.hid h
  clear h
  go_enter Tryd.func51, Tryd.ntmps51
  go_wp2_with (first
    | (go_at_call 62
       go_must (
         (refine (isstr_yes _ _ (by omega) (by omega)).mono ?_)
         rintro e w' ⟨rfl, rfl⟩))
    | (go_at_call 63
       go_must (
         (refine (rstr_calls _ _ (by omega)).mono ?_)
         rintro e w' ⟨rfl, rfl⟩)))
  all_goals (
    ((try simp only [Exit.inBlock, Exit.then]); refine bodyPost_ret (results_tmp3Q rfl _ _ _) rfl ?_)
    refine ⟨_, _, _, _, rfl, ?_, ?_, Below.refl _ _⟩
    · first
        | exact Reads.preQ (Reads.tailQ HR.out 1 rfl (by omega))
        | exact Reads.zeroQ (by omega)
    · first
        | exact Reads.tail2Q HR.out 1 rfl (by omega)
        | exact Reads.zeroQ (by omega))

set_option maxHeartbeats 4000000 in
set_option maxRecDepth 100000 in
theorem ZC_fix_cut (W : World) (B c n : Nat) (ad : Addr) (rest : List Int) (h : Reads W B 1 (some ad) (rest.length + 1) (bs ([160 + (n : Int)] ++ rest))) (hmc : rest.length + 1 ≤ c) (hcm : c ≤ maxLen) (hB : B ≤ W.heap.size) (hr : n < 32) (hlt : rest.length < n) (ts : TypeId) (vs : Value) (hsh : W.cell? ⟨1, 0, none⟩ = some (.iface ts vs)) :
    Calls Tryd.prog 51 #[.slice (some ad) (rest.length + 1) c] W (RZE W) := by
  obtain ⟨ad', hA, hlt', hc⟩ := h.2 (by omega)
  injection hA with hA
  subst hA
  have hlw : ad.block < W.heap.size := by omega
  have hm1 : rest.length + 1 ≤ 9223372036854775807 := by simp only [maxLen] at hcm; omega
  have hc1 : c ≤ 9223372036854775807 := by simp only [maxLen] at hcm; omega
  have q0 := hc 0 _ rfl
  rw [add_zeroQ] at q0
  have dlt : decide ((rest.length : Int) < (n : Int)) = true := decide_eq_true (by omega)
  clear hc
  have HR := Lib.hid h
  clear h
  go_enter Tryd.func51, Tryd.ntmps51
  go_wp2_with (first
    | (go_at_call 62
       go_must (
         (refine (isstr_yes _ _ (by omega) (by omega)).mono ?_)
         rintro e w' ⟨rfl, rfl⟩))
    | (go_at_call 63
       go_must (
         (refine (rstr_calls _ _ (by omega)).mono ?_)
         rintro e w' ⟨rfl, rfl⟩)))
  all_goals (
    ((try simp only [Exit.inBlock, Exit.then]); refine bodyPost_ret (results_tmp3Q rfl _ _ _) rfl ?_)
    exact ⟨⟨_, _, _, _, _, rfl⟩, Below.refl _ _⟩)

set_option maxHeartbeats 4000000 in
set_option maxRecDepth 100000 in
theorem ZC_one (W : World) (B c n : Nat) (ad : Addr) (rest : List Int) (h : Reads W B 1 (some ad) (rest.length + 2) (bs ([217, (n : Int)] ++ rest))) (hmc : rest.length + 2 ≤ c) (hcm : c ≤ maxLen) (hB : B ≤ W.heap.size) (hr : n < 256) (body tot : List Int) (hb : n = body.length) (hrest : rest = body ++ tot) :
    Calls Tryd.prog 51 #[.slice (some ad) (rest.length + 2) c] W (RZ body tot B W) := by
  obtain ⟨ad', hA, hlt', hc⟩ := h.2 (by omega)
  injection hA with hA
  subst hA
  have hlw : ad.block < W.heap.size := by omega
  have hm1 : rest.length + 2 ≤ 9223372036854775807 := by simp only [maxLen] at hcm; omega
  have hc1 : c ≤ 9223372036854775807 := by simp only [maxLen] at hcm; omega
  have q0 := hc 0 _ rfl
  rw [add_zeroQ] at q0
  have hrl0 : rest.length = body.length + tot.length := by rw [hrest, List.length_append]
  subst hb
  rw [hrl0] at h hmc hm1 ⊢
  have dlt : decide ((body.length : Int) + (tot.length : Int) < (body.length : Int)) = false := decide_eq_false (by omega)
  have q1 : W.cell? ⟨ad.block, ad.off + 1, none⟩ = some _ := hc 1 _ rfl
  clear hc
  subst hrest
  have HR := Lib.hid h
  clear h
  go_enter Tryd.func51, Tryd.ntmps51
  go_wp2_with (first
    | (go_at_call 62
       go_must (
         (refine (isstr_no _ _ (by omega) (by omega) (by omega)).mono ?_)
         rintro e w' ⟨rfl, rfl⟩)))
  all_goals (
    ((try simp only [Exit.inBlock, Exit.then]); refine bodyPost_ret (results_tmp3Q rfl _ _ _) rfl ?_)
    refine ⟨_, _, _, _, rfl, ?_, ?_, Below.refl _ _⟩
    · first
        | exact Reads.preQ (Reads.tailQ HR.out 2 rfl (by omega))
        | exact Reads.zeroQ (by omega)
    · first
        | exact Reads.tail2Q HR.out 2 rfl (by omega)
        | exact Reads.zeroQ (by omega))

set_option maxHeartbeats 4000000 in
set_option maxRecDepth 100000 in
theorem ZC_one_cut (W : World) (B c n : Nat) (ad : Addr) (rest : List Int) (h : Reads W B 1 (some ad) (rest.length + 2) (bs ([217, (n : Int)] ++ rest))) (hmc : rest.length + 2 ≤ c) (hcm : c ≤ maxLen) (hB : B ≤ W.heap.size) (hr : n < 256) (hlt : rest.length < n) (ts : TypeId) (vs : Value) (hsh : W.cell? ⟨1, 0, none⟩ = some (.iface ts vs)) :
    Calls Tryd.prog 51 #[.slice (some ad) (rest.length + 2) c] W (RZE W) := by
  obtain ⟨ad', hA, hlt', hc⟩ := h.2 (by omega)
  injection hA with hA
  subst hA
  have hlw : ad.block < W.heap.size := by omega
  have hm1 : rest.length + 2 ≤ 9223372036854775807 := by simp only [maxLen] at hcm; omega
  have hc1 : c ≤ 9223372036854775807 := by simp only [maxLen] at hcm; omega
  have q0 := hc 0 _ rfl
  rw [add_zeroQ] at q0
  have dlt : decide ((rest.length : Int) < (n : Int)) = true := decide_eq_true (by omega)
  have q1 : W.cell? ⟨ad.block, ad.off + 1, none⟩ = some _ := hc 1 _ rfl
  clear hc
  have HR := Lib.hid h
  clear h
  go_enter Tryd.func51, Tryd.ntmps51
  go_wp2_with (first
    | (go_at_call 62
       go_must (
         (refine (isstr_no _ _ (by omega) (by omega) (by omega)).mono ?_)
         rintro e w' ⟨rfl, rfl⟩)))
  all_goals (
    ((try simp only [Exit.inBlock, Exit.then]); refine bodyPost_ret (results_tmp3Q rfl _ _ _) rfl ?_)
    exact ⟨⟨_, _, _, _, _, rfl⟩, Below.refl _ _⟩)

set_option maxHeartbeats 4000000 in
set_option maxRecDepth 100000 in
theorem ZC_two (W : World) (B c n : Nat) (ad : Addr) (rest : List Int) (h : Reads W B 1 (some ad) (rest.length + 3) (bs ([218, (n : Int) / 256 % 256, (n : Int) % 256] ++ rest))) (hmc : rest.length + 3 ≤ c) (hcm : c ≤ maxLen) (hB : B ≤ W.heap.size) (hr : n < 65536) (body tot : List Int) (hb : n = body.length) (hrest : rest = body ++ tot) :
    Calls Tryd.prog 51 #[.slice (some ad) (rest.length + 3) c] W (RZ body tot B W) := by
  obtain ⟨ad', hA, hlt', hc⟩ := h.2 (by omega)
  injection hA with hA
  subst hA
  have hlw : ad.block < W.heap.size := by omega
  have hm1 : rest.length + 3 ≤ 9223372036854775807 := by simp only [maxLen] at hcm; omega
  have hc1 : c ≤ 9223372036854775807 := by simp only [maxLen] at hcm; omega
  have q0 := hc 0 _ rfl
  rw [add_zeroQ] at q0
  have hrl0 : rest.length = body.length + tot.length := by rw [hrest, List.length_append]
  subst hb
  rw [hrl0] at h hmc hm1 ⊢
  have dlt : decide ((body.length : Int) + (tot.length : Int) < (body.length : Int)) = false := decide_eq_false (by omega)
  have hld : ∀ w, (loadVar 126 ⟨2, 0, none⟩).run Tryd.prog w = .ok (.agg #[]) w := fun w => by kernel_rfl
  have HT : Hid (Reads W B 1 (some ⟨ad.block, ad.off + 1, none⟩) (body.length + tot.length + 2) (bs ([(body.length : Int) / 256 % 256, (body.length : Int) % 256] ++ rest))) := by
    have ht := Reads.tailQ (e := [218]) (tot := [(body.length : Int) / 256 % 256, (body.length : Int) % 256] ++ rest) h 1 rfl (by omega)
    rw [show ([(body.length : Int) / 256 % 256, (body.length : Int) % 256] ++ rest).length = body.length + tot.length + 2 by simp [hrl0]] at ht
    exact ht
  clear hc
  subst hrest
  have HR := Lib.hid h
  clear h
  go_enter Tryd.func51, Tryd.ntmps51
  go_wp2_with (first
    | (go_at_call 62
       go_must (
         (refine (isstr_no _ _ (by omega) (by omega) (by omega)).mono ?_)
         rintro e w' ⟨rfl, rfl⟩))
    | (go_at_call 64
       go_must (
         (refine (beQ16 _ B _ _ _ (body.length : Int) (body ++ tot) HT.out (by omega) (by omega) (by omega) (by omega)).mono ?_)
         rintro e w2 ⟨rfl, n2, rfl⟩)))
  all_goals (
    ((try simp only [Exit.inBlock, Exit.then]); refine bodyPost_ret (results_tmp3Q rfl _ _ _) rfl ?_)
    refine ⟨_, _, _, _, rfl, ?_, ?_, below_drewN ((Below.refl _ _).alloc (Nat.le_refl _) _) _⟩
    · first
        | exact Reads.preQ (Reads.tailQ ((HR.out.alloc hB _).drewN _) 3 rfl (by omega))
        | exact Reads.zeroQ (by omega)
    · first
        | exact Reads.tail2Q ((HR.out.alloc hB _).drewN _) 3 rfl (by omega)
        | exact Reads.zeroQ (by omega))

set_option maxHeartbeats 4000000 in
set_option maxRecDepth 100000 in
theorem ZC_two_cut (W : World) (B c n : Nat) (ad : Addr) (rest : List Int) (h : Reads W B 1 (some ad) (rest.length + 3) (bs ([218, (n : Int) / 256 % 256, (n : Int) % 256] ++ rest))) (hmc : rest.length + 3 ≤ c) (hcm : c ≤ maxLen) (hB : B ≤ W.heap.size) (hr : n < 65536) (hlt : rest.length < n) (ts : TypeId) (vs : Value) (hsh : W.cell? ⟨1, 0, none⟩ = some (.iface ts vs)) :
    Calls Tryd.prog 51 #[.slice (some ad) (rest.length + 3) c] W (RZE W) := by
  obtain ⟨ad', hA, hlt', hc⟩ := h.2 (by omega)
  injection hA with hA
  subst hA
  have hlw : ad.block < W.heap.size := by omega
  have hm1 : rest.length + 3 ≤ 9223372036854775807 := by simp only [maxLen] at hcm; omega
  have hc1 : c ≤ 9223372036854775807 := by simp only [maxLen] at hcm; omega
  have q0 := hc 0 _ rfl
  rw [add_zeroQ] at q0
  have dlt : decide ((rest.length : Int) < (n : Int)) = true := decide_eq_true (by omega)
  have hGb := World.block_lt_of_cell? W _ hsh
  have hsh2 : ∀ (j : Nat), ((W.alloc (.cells #[] 126)).drewN j).cell? ⟨1, 0, none⟩ = some (.iface ts vs) := fun j => ((below_drewN ((Below.refl _ W).alloc (Nat.le_refl _) _) j).cell hGb).trans hsh
  have hld : ∀ w, (loadVar 126 ⟨2, 0, none⟩).run Tryd.prog w = .ok (.agg #[]) w := fun w => by kernel_rfl
  have HT : Hid (Reads W B 1 (some ⟨ad.block, ad.off + 1, none⟩) (rest.length + 2) (bs ([(n : Int) / 256 % 256, (n : Int) % 256] ++ rest))) := by
    have ht := Reads.tailQ (e := [218]) (tot := [(n : Int) / 256 % 256, (n : Int) % 256] ++ rest) h 1 rfl (by omega)
    rw [show ([(n : Int) / 256 % 256, (n : Int) % 256] ++ rest).length = rest.length + 2 by simp] at ht
    exact ht
  clear hc
  have HR := Lib.hid h
  clear h
  go_enter Tryd.func51, Tryd.ntmps51
  go_wp2_with (first
    | (go_at_call 62
       go_must (
         (refine (isstr_no _ _ (by omega) (by omega) (by omega)).mono ?_)
         rintro e w' ⟨rfl, rfl⟩))
    | (go_at_call 64
       go_must (
         (refine (beQ16 _ B _ _ _ (n : Int) rest HT.out (by omega) (by omega) (by omega) (by omega)).mono ?_)
         rintro e w2 ⟨rfl, n2, rfl⟩)))
  all_goals (
    ((try simp only [Exit.inBlock, Exit.then]); refine bodyPost_ret (results_tmp3Q rfl _ _ _) rfl ?_)
    exact ⟨⟨_, _, _, _, _, rfl⟩, below_drewN ((Below.refl _ _).alloc (Nat.le_refl _) _) _⟩)

set_option maxHeartbeats 4000000 in
set_option maxRecDepth 100000 in
theorem ZC_four (W : World) (B c n : Nat) (ad : Addr) (rest : List Int) (h : Reads W B 1 (some ad) (rest.length + 5) (bs ([219, (n : Int) / 16777216 % 256, (n : Int) / 65536 % 256, (n : Int) / 256 % 256, (n : Int) % 256] ++ rest))) (hmc : rest.length + 5 ≤ c) (hcm : c ≤ maxLen) (hB : B ≤ W.heap.size) (hr : n < 4294967296) (body tot : List Int) (hb : n = body.length) (hrest : rest = body ++ tot) :
    Calls Tryd.prog 51 #[.slice (some ad) (rest.length + 5) c] W (RZ body tot B W) := by
  obtain ⟨ad', hA, hlt', hc⟩ := h.2 (by omega)
  injection hA with hA
  subst hA
  have hlw : ad.block < W.heap.size := by omega
  have hm1 : rest.length + 5 ≤ 9223372036854775807 := by simp only [maxLen] at hcm; omega
  have hc1 : c ≤ 9223372036854775807 := by simp only [maxLen] at hcm; omega
  have q0 := hc 0 _ rfl
  rw [add_zeroQ] at q0
  have hrl0 : rest.length = body.length + tot.length := by rw [hrest, List.length_append]
  subst hb
  rw [hrl0] at h hmc hm1 ⊢
  have dlt : decide ((body.length : Int) + (tot.length : Int) < (body.length : Int)) = false := decide_eq_false (by omega)
  have hld : ∀ w, (loadVar 126 ⟨2, 0, none⟩).run Tryd.prog w = .ok (.agg #[]) w := fun w => by kernel_rfl
  have HT : Hid (Reads W B 1 (some ⟨ad.block, ad.off + 1, none⟩) (body.length + tot.length + 4) (bs ([(body.length : Int) / 16777216 % 256, (body.length : Int) / 65536 % 256, (body.length : Int) / 256 % 256, (body.length : Int) % 256] ++ rest))) := by
    have ht := Reads.tailQ (e := [219]) (tot := [(body.length : Int) / 16777216 % 256, (body.length : Int) / 65536 % 256, (body.length : Int) / 256 % 256, (body.length : Int) % 256] ++ rest) h 1 rfl (by omega)
    rw [show ([(body.length : Int) / 16777216 % 256, (body.length : Int) / 65536 % 256, (body.length : Int) / 256 % 256, (body.length : Int) % 256] ++ rest).length = body.length + tot.length + 4 by simp [hrl0]] at ht
    exact ht
  clear hc
  subst hrest
  have HR := Lib.hid h
  clear h
  go_enter Tryd.func51, Tryd.ntmps51
  go_wp2_with (first
    | (go_at_call 62
       go_must (
         (refine (isstr_no _ _ (by omega) (by omega) (by omega)).mono ?_)
         rintro e w' ⟨rfl, rfl⟩))
    | (go_at_call 65
       go_must (
         (refine (beQ32 _ B _ _ _ (body.length : Int) (body ++ tot) HT.out (by omega) (by omega) (by omega) (by omega)).mono ?_)
         rintro e w2 ⟨rfl, n2, rfl⟩)))
  all_goals (
    ((try simp only [Exit.inBlock, Exit.then]); refine bodyPost_ret (results_tmp3Q rfl _ _ _) rfl ?_)
    refine ⟨_, _, _, _, rfl, ?_, ?_, below_drewN ((Below.refl _ _).alloc (Nat.le_refl _) _) _⟩
    · first
        | exact Reads.preQ (Reads.tailQ ((HR.out.alloc hB _).drewN _) 5 rfl (by omega))
        | exact Reads.zeroQ (by omega)
    · first
        | exact Reads.tail2Q ((HR.out.alloc hB _).drewN _) 5 rfl (by omega)
        | exact Reads.zeroQ (by omega))

set_option maxHeartbeats 4000000 in
set_option maxRecDepth 100000 in
theorem ZC_four_cut (W : World) (B c n : Nat) (ad : Addr) (rest : List Int) (h : Reads W B 1 (some ad) (rest.length + 5) (bs ([219, (n : Int) / 16777216 % 256, (n : Int) / 65536 % 256, (n : Int) / 256 % 256, (n : Int) % 256] ++ rest))) (hmc : rest.length + 5 ≤ c) (hcm : c ≤ maxLen) (hB : B ≤ W.heap.size) (hr : n < 4294967296) (hlt : rest.length < n) (ts : TypeId) (vs : Value) (hsh : W.cell? ⟨1, 0, none⟩ = some (.iface ts vs)) :
    Calls Tryd.prog 51 #[.slice (some ad) (rest.length + 5) c] W (RZE W) := by
  obtain ⟨ad', hA, hlt', hc⟩ := h.2 (by omega)
  injection hA with hA
  subst hA
  have hlw : ad.block < W.heap.size := by omega
  have hm1 : rest.length + 5 ≤ 9223372036854775807 := by simp only [maxLen] at hcm; omega
  have hc1 : c ≤ 9223372036854775807 := by simp only [maxLen] at hcm; omega
  have q0 := hc 0 _ rfl
  rw [add_zeroQ] at q0
  have dlt : decide ((rest.length : Int) < (n : Int)) = true := decide_eq_true (by omega)
  have hGb := World.block_lt_of_cell? W _ hsh
  have hsh2 : ∀ (j : Nat), ((W.alloc (.cells #[] 126)).drewN j).cell? ⟨1, 0, none⟩ = some (.iface ts vs) := fun j => ((below_drewN ((Below.refl _ W).alloc (Nat.le_refl _) _) j).cell hGb).trans hsh
  have hld : ∀ w, (loadVar 126 ⟨2, 0, none⟩).run Tryd.prog w = .ok (.agg #[]) w := fun w => by kernel_rfl
  have HT : Hid (Reads W B 1 (some ⟨ad.block, ad.off + 1, none⟩) (rest.length + 4) (bs ([(n : Int) / 16777216 % 256, (n : Int) / 65536 % 256, (n : Int) / 256 % 256, (n : Int) % 256] ++ rest))) := by
    have ht := Reads.tailQ (e := [219]) (tot := [(n : Int) / 16777216 % 256, (n : Int) / 65536 % 256, (n : Int) / 256 % 256, (n : Int) % 256] ++ rest) h 1 rfl (by omega)
    rw [show ([(n : Int) / 16777216 % 256, (n : Int) / 65536 % 256, (n : Int) / 256 % 256, (n : Int) % 256] ++ rest).length = rest.length + 4 by simp] at ht
    exact ht
  clear hc
  have HR := Lib.hid h
  clear h
  go_enter Tryd.func51, Tryd.ntmps51
  go_wp2_with (first
    | (go_at_call 62
       go_must (
         (refine (isstr_no _ _ (by omega) (by omega) (by omega)).mono ?_)
         rintro e w' ⟨rfl, rfl⟩))
    | (go_at_call 65
       go_must (
         (refine (beQ32 _ B _ _ _ (n : Int) rest HT.out (by omega) (by omega) (by omega) (by omega)).mono ?_)
         rintro e w2 ⟨rfl, n2, rfl⟩)))
  all_goals (
    ((try simp only [Exit.inBlock, Exit.then]); refine bodyPost_ret (results_tmp3Q rfl _ _ _) rfl ?_)
    exact ⟨⟨_, _, _, _, _, rfl⟩, below_drewN ((Below.refl _ _).alloc (Nat.le_refl _) _) _⟩)

set_option maxHeartbeats 4000000 in
set_option maxRecDepth 100000 in
theorem ZC_s217 (W : World) (B c : Nat) (ad : Addr) (rest : List Int) (h : Reads W B 1 (some ad) (rest.length + 1) (bs ([217] ++ rest))) (hmc : rest.length + 1 ≤ c) (hcm : c ≤ maxLen) (hB : B ≤ W.heap.size) (hlt : rest.length < 1) (ts : TypeId) (vs : Value) (hsh : W.cell? ⟨1, 0, none⟩ = some (.iface ts vs)) :
    Calls Tryd.prog 51 #[.slice (some ad) (rest.length + 1) c] W (RZE W) := by
  obtain ⟨ad', hA, hlt', hc⟩ := h.2 (by omega)
  injection hA with hA
  subst hA
  have hlw : ad.block < W.heap.size := by omega
  have hm1 : rest.length + 1 ≤ 9223372036854775807 := by simp only [maxLen] at hcm; omega
  have hc1 : c ≤ 9223372036854775807 := by simp only [maxLen] at hcm; omega
  have q0 := hc 0 _ rfl
  rw [add_zeroQ] at q0
  clear hc h
  have dlt : decide ((rest.length : Int) < 1) = true := decide_eq_true (by omega)
  go_enter Tryd.func51, Tryd.ntmps51
  go_wp2_with (first
    | (go_at_call 62
       go_must (
         (refine (isstr_no _ _ (by omega) (by omega) (by omega)).mono ?_)
         rintro e w' ⟨rfl, rfl⟩)))
  all_goals (
    ((try simp only [Exit.inBlock, Exit.then]); refine bodyPost_ret (results_tmp3Q rfl _ _ _) rfl ?_)
    exact ⟨⟨_, _, _, _, _, rfl⟩, Below.refl _ _⟩)

set_option maxHeartbeats 4000000 in
set_option maxRecDepth 100000 in
theorem ZC_s218 (W : World) (B c : Nat) (ad : Addr) (rest : List Int) (h : Reads W B 1 (some ad) (rest.length + 1) (bs ([218] ++ rest))) (hmc : rest.length + 1 ≤ c) (hcm : c ≤ maxLen) (hB : B ≤ W.heap.size) (hlt : rest.length < 2) (ts : TypeId) (vs : Value) (hsh : W.cell? ⟨1, 0, none⟩ = some (.iface ts vs)) :
    Calls Tryd.prog 51 #[.slice (some ad) (rest.length + 1) c] W (RZE W) := by
  obtain ⟨ad', hA, hlt', hc⟩ := h.2 (by omega)
  injection hA with hA
  subst hA
  have hlw : ad.block < W.heap.size := by omega
  have hm1 : rest.length + 1 ≤ 9223372036854775807 := by simp only [maxLen] at hcm; omega
  have hc1 : c ≤ 9223372036854775807 := by simp only [maxLen] at hcm; omega
  have q0 := hc 0 _ rfl
  rw [add_zeroQ] at q0
  clear hc h
  have dlt : decide ((rest.length : Int) < 2) = true := decide_eq_true (by omega)
  go_enter Tryd.func51, Tryd.ntmps51
  go_wp2_with (first
    | (go_at_call 62
       go_must (
         (refine (isstr_no _ _ (by omega) (by omega) (by omega)).mono ?_)
         rintro e w' ⟨rfl, rfl⟩)))
  all_goals (
    ((try simp only [Exit.inBlock, Exit.then]); refine bodyPost_ret (results_tmp3Q rfl _ _ _) rfl ?_)
    exact ⟨⟨_, _, _, _, _, rfl⟩, Below.refl _ _⟩)

set_option maxHeartbeats 4000000 in
set_option maxRecDepth 100000 in
theorem ZC_s219 (W : World) (B c : Nat) (ad : Addr) (rest : List Int) (h : Reads W B 1 (some ad) (rest.length + 1) (bs ([219] ++ rest))) (hmc : rest.length + 1 ≤ c) (hcm : c ≤ maxLen) (hB : B ≤ W.heap.size) (hlt : rest.length < 4) (ts : TypeId) (vs : Value) (hsh : W.cell? ⟨1, 0, none⟩ = some (.iface ts vs)) :
    Calls Tryd.prog 51 #[.slice (some ad) (rest.length + 1) c] W (RZE W) := by
  obtain ⟨ad', hA, hlt', hc⟩ := h.2 (by omega)
  injection hA with hA
  subst hA
  have hlw : ad.block < W.heap.size := by omega
  have hm1 : rest.length + 1 ≤ 9223372036854775807 := by simp only [maxLen] at hcm; omega
  have hc1 : c ≤ 9223372036854775807 := by simp only [maxLen] at hcm; omega
  have q0 := hc 0 _ rfl
  rw [add_zeroQ] at q0
  clear hc h
  have dlt : decide ((rest.length : Int) < 4) = true := decide_eq_true (by omega)
  go_enter Tryd.func51, Tryd.ntmps51
  go_wp2_with (first
    | (go_at_call 62
       go_must (
         (refine (isstr_no _ _ (by omega) (by omega) (by omega)).mono ?_)
         rintro e w' ⟨rfl, rfl⟩)))
  all_goals (
    ((try simp only [Exit.inBlock, Exit.then]); refine bodyPost_ret (results_tmp3Q rfl _ _ _) rfl ?_)
    exact ⟨⟨_, _, _, _, _, rfl⟩, Below.refl _ _⟩)

set_option maxHeartbeats 4000000 in
set_option maxRecDepth 100000 in
theorem ZC_other (W : World) (B c : Nat) (ad : Addr) (b : Int) (rest : List Int) (h : Reads W B 1 (some ad) (rest.length + 1) (bs ([b] ++ rest))) (hmc : rest.length + 1 ≤ c) (hcm : c ≤ maxLen) (hB : B ≤ W.heap.size) (hb0 : 0 ≤ b) (hb1 : b < 256) (hb : b < 160 ∨ 192 ≤ b) (hb2 : b < 217 ∨ 219 < b) :
    Calls Tryd.prog 51 #[.slice (some ad) (rest.length + 1) c] W (RZE W) := by
  obtain ⟨ad', hA, hlt', hc⟩ := h.2 (by omega)
  injection hA with hA
  subst hA
  have hlw : ad.block < W.heap.size := by omega
  have hm1 : rest.length + 1 ≤ 9223372036854775807 := by simp only [maxLen] at hcm; omega
  have hc1 : c ≤ 9223372036854775807 := by simp only [maxLen] at hcm; omega
  have q0 := hc 0 _ rfl
  rw [add_zeroQ] at q0
  clear hc h
  have d217 : (b == 217) = false := by simp; omega
  have e217 : decide (b = 217) = false := decide_eq_false (by omega)
  have d218 : (b == 218) = false := by simp; omega
  have e218 : decide (b = 218) = false := decide_eq_false (by omega)
  have d219 : (b == 219) = false := by simp; omega
  have e219 : decide (b = 219) = false := decide_eq_false (by omega)
  go_enter Tryd.func51, Tryd.ntmps51
  go_wp2_with (first
    | (go_at_call 62
       go_must (
         (refine (isstr_no _ _ (by omega) (by omega) (by omega)).mono ?_)
         rintro e w' ⟨rfl, rfl⟩))
    | (go_at_call 60
       go_must (
         (refine (getType_any _ _ (by omega) (by omega)).mono ?_)
         rintro e w2 ⟨⟨t, rfl⟩, hb2⟩
         have HB2 := Lib.hid hb2
         clear hb2)))
  all_goals (
    ((try simp only [Exit.inBlock, Exit.then]); refine bodyPost_ret (results_tmp3Q rfl _ _ _) rfl ?_)
    exact ⟨⟨_, _, _, _, _, rfl⟩, HB2.out⟩)

set_option maxHeartbeats 4000000 in
set_option maxRecDepth 100000 in
theorem ZC_none (W : World) (c : Nat) (A : Option Addr) (ts : TypeId) (vs : Value) (hsh : W.cell? ⟨1, 0, none⟩ = some (.iface ts vs)) :
    Calls Tryd.prog 51 #[.slice A 0 c] W (RZE W) := by
  go_enter Tryd.func51, Tryd.ntmps51
  go_wp2
  go_quiet (fail)
  go_wp2
  ((try simp only [Exit.inBlock, Exit.then]); refine bodyPost_ret (results_tmp3Q rfl _ _ _) rfl ?_)
  exact ⟨⟨_, _, _, _, _, rfl⟩, below_drewN (Below.refl _ _) _⟩

def RSA (body tot : List Int) (w : World) (e : Ending) (w' : World) : Prop :=
  ∃ A1 c1 A2 c2, e = .returned (.tuple #[.slice A1 body.length c1, .slice A2 tot.length c2, .nilIface]) ∧ Reads w' w'.heap.size 1 A1 body.length (bs body) ∧ Reads w' w'.heap.size 1 A2 tot.length (bs tot) ∧ Below w.heap.size w w'
def RSE (w : World) (e : Ending) (w' : World) : Prop :=
  (∃ A0 m0 c0 A1 m1 c1 t v, e = .returned (.tuple #[.slice A0 m0 c0, .slice A1 m1 c1, .iface t v])) ∧ Below w.heap.size w w'
theorem own_readsQ {w : World} {base n : Nat} {v : Value} {l : List Int} (h : w.ownsRow base 5 1 v n (bs l)) (hn : n = l.length) : ∃ A c, v = .slice A l.length c ∧ Reads w w.heap.size 1 A l.length (bs l) := by
  subst hn
  by_cases hv : v = .slice none 0 0
  · subst hv
    rcases h.2 with ⟨_, hx⟩ | ⟨g, cap, cur, hx, _⟩
    · have hl : l = [] := by simpa [bs] using hx
      subst hl
      exact ⟨none, 0, rfl, Reads.none_⟩
    · cases hx
  · obtain ⟨g, cs, hv2, hk, hB, hn, hm, ht⟩ := own_blk h (.inr hv)
    exact ⟨_, _, hv2, bs_reads hk hn ht⟩

set_option maxHeartbeats 4000000 in
set_option maxRecDepth 100000 in
theorem SA_ok (W : World) (m c : Nat) (A : Option Addr) (body tot : List Int) (B : Nat) (hB : B ≤ W.heap.size) (hl : body.length ≤ 1000000) (h : Calls Tryd.prog 51 #[.slice A m c] W (RZ body tot B W)) :
    Calls Tryd.prog 33 #[.slice A m c, .slice none 0 0] W (RSA body tot W) := by
  have H := Lib.hid h
  clear h
  obtain ⟨i0, hi0, hz0, hz1, hz2⟩ := info_parts infoU8
  go_enter Tryd.func33, Tryd.ntmps33
  go_wp2_with (first
    | (go_at_call 51
       go_must (
         (refine H.out.mono ?_)
         rintro e w1 ⟨A1, c1, A2, c2, rfl, hr1, hr2, hb1⟩
         have HR1 := Lib.hid (hr1.more (Nat.le_trans hB hb1.size))
         have HR2 := Lib.hid (hr2.more (Nat.le_trans hB hb1.size))
         have HB1 := Lib.hid hb1
         clear hr1 hr2 hb1))
    | (refine gate_dst (N := 17) rfl ?_
       refine wpList_append_any _ rfl _ _ _ rfl W.heap.size 5 i0 _ 1 1 Tryd.underlying26 hi0 hz0 hz1 hz2 rfl (by omega) _ 0 [] rfl (World.ownsRow_nil _ _ _ _) w1.heap.size A1 body.length c1 (bs body) rfl HR1.out (bs_one body) (by simp only [maxLen]; omega) (by omega) HB1.out.size ?_
       intro v1 w2 hown1 hg1 hat1
       obtain ⟨A3, c3, rfl, hr3⟩ := own_readsQ (by simpa using hown1) (by simp)
       have hg2 : w1.grownBy w2 (Value.slice none 0 0).ownBlock := hg1
       have hbel2 : Below w1.heap.size w1 w2 := below_of_grown hg2 (by simp [Value.ownBlock]) (Nat.le_refl _)
       have HR3 := Lib.hid hr3
       have HB2 := Lib.hid hbel2
       clear hown1 hg1 hg2 hat1 hr3 hbel2))
  all_goals (
    ((try simp only [Exit.inBlock, Exit.then]); refine bodyPost_ret (results_tmp3Q rfl _ _ _) rfl ?_)
    exact ⟨_, _, _, _, rfl, HR3.out, (HR2.out.below HB2.out).more HB2.out.size, HB1.out.trans (HB2.out.mono HB1.out.size)⟩)

set_option maxHeartbeats 4000000 in
set_option maxRecDepth 100000 in
theorem SA_no (W : World) (m c : Nat) (A : Option Addr) (h : Calls Tryd.prog 51 #[.slice A m c] W (RZE W)) :
    Calls Tryd.prog 33 #[.slice A m c, .slice none 0 0] W (RSE W) := by
  have H := Lib.hid h
  clear h
  obtain ⟨i0, hi0, hz0, hz1, hz2⟩ := info_parts infoU8
  go_enter Tryd.func33, Tryd.ntmps33
  go_wp2_with (first
    | (go_at_call 51
       go_must (
         (refine H.out.mono ?_)
         rintro e w1 ⟨⟨A1, m1, c1, t, v, rfl⟩, hb1⟩
         have HB1 := Lib.hid hb1
         clear hb1))
    | (refine gate_dst (N := 17) rfl ?_
       refine wpList_append_any _ rfl _ _ _ rfl W.heap.size 5 i0 _ 1 1 Tryd.underlying26 hi0 hz0 hz1 hz2 rfl (by omega) _ 0 [] rfl (World.ownsRow_nil _ _ _ _) 0 none 0 0 [] rfl Reads.none_ (by simp) (by simp only [maxLen]; omega) (by omega) HB1.out.size ?_
       intro v1 w2 hown1 hg1 hat1
       obtain ⟨A3, c3, rfl, hr3⟩ := own_readsQ (l := []) (by simpa [bs] using hown1) (by simp)
       have hg2 : w1.grownBy w2 (Value.slice none 0 0).ownBlock := hg1
       have hbel2 : Below w1.heap.size w1 w2 := below_of_grown hg2 (by simp [Value.ownBlock]) (Nat.le_refl _)
       have HB2 := Lib.hid hbel2
       clear hown1 hg1 hg2 hat1 hr3 hbel2))
  all_goals (
    ((try simp only [Exit.inBlock, Exit.then]); refine bodyPost_ret (results_tmp3Q rfl _ _ _) rfl ?_)
    exact ⟨⟨_, _, _, _, _, _, _, _, rfl⟩, HB1.out.trans (HB2.out.mono HB1.out.size)⟩)

def GTB (body tot : List Int) (w : World) (e : Ending) (w' : World) : Prop :=
  ∃ A1 c1 A2 c2, e = .returned (.tuple #[.slice A1 body.length c1, .slice A2 tot.length c2, .bool true]) ∧ Reads w' w'.heap.size 1 A1 body.length (bs body) ∧ Reads w' w'.heap.size 1 A2 tot.length (bs tot) ∧ Below w.heap.size w w'
def GTE (w : World) (e : Ending) (w' : World) : Prop :=
  e = .returned (.tuple #[.slice none 0 0, .slice none 0 0, .bool false]) ∧ Below w.heap.size w w'

set_option maxHeartbeats 4000000 in
set_option maxRecDepth 100000 in
theorem GT_ok (W : World) (m c : Nat) (A : Option Addr) (body tot : List Int) (hl : body.length ≤ 1000000) (ht : tot.length ≤ 100) (h : Calls Tryd.prog 33 #[.slice A m c, .slice none 0 0] W (RSA body tot W)) :
    Calls Tryd.prog 17 #[.slice A m c] W (GTB body tot W) := by
  have H := Lib.hid h
  clear h
  go_enter Tryd.func17, Tryd.ntmps17
  go_wp2_with (first
    | (go_at_call 33
       go_must (
         (refine H.out.mono ?_)
         rintro e w1 ⟨A1, c1, A2, c2, rfl, hr1, hr2, hb1⟩
         have HR1 := Lib.hid hr1
         have HR2 := Lib.hid hr2
         have HB1 := Lib.hid hb1
         clear hr1 hr2 hb1))
    | (go_at_call 32
       first
       | (have HXX := HR5.out
          clear HXX
          go_must (
         (refine (copied_b w5 A2 c2 tot ((HR2.out.below HB15.out).more HB15.out.size) (by omega)).mono ?_)
         rintro e w6 ⟨g6, cs6, rfl, hb6, hl6, hm6, ht6, hg6, hbel6⟩
         have HR6 := Lib.hid (bs_reads hb6 hl6 ht6)
         have HB6 := Lib.hid hbel6
         clear hb6 ht6 hbel6))
       | go_must (
         (refine (copied_b w1 A1 c1 body HR1.out (by omega)).mono ?_)
         rintro e w5 ⟨g5, cs5, rfl, hb5, hl5, hm5, ht5, hg5, hbel5⟩
         have HR5 := Lib.hid (bs_reads hb5 hl5 ht5)
         have HB15 := Lib.hid hbel5
         clear hb5 ht5 hbel5)))
  all_goals (
    ((try simp only [Exit.inBlock, Exit.then]); refine bodyPost_ret (results_tmp3Q rfl _ _ _) rfl ?_)
    exact ⟨_, _, _, _, rfl, (HR5.out.below HB6.out).more HB6.out.size, HR6.out, HB1.out.trans ((HB15.out.trans (HB6.out.mono HB15.out.size)).mono HB1.out.size)⟩)

set_option maxHeartbeats 4000000 in
set_option maxRecDepth 100000 in
theorem GT_no (W : World) (m c : Nat) (A : Option Addr) (h : Calls Tryd.prog 33 #[.slice A m c, .slice none 0 0] W (RSE W)) :
    Calls Tryd.prog 17 #[.slice A m c] W (GTE W) := by
  have H := Lib.hid h
  clear h
  go_enter Tryd.func17, Tryd.ntmps17
  go_wp2_with (first
    | (go_at_call 33
       go_must (
         (refine H.out.mono ?_)
         rintro e w1 ⟨⟨A0, m0, c0, A1, m1, c1, t, v, rfl⟩, hb1⟩
         have HB1 := Lib.hid hb1
         clear hb1)))
  all_goals (
    ((try simp only [Exit.inBlock, Exit.then]); refine bodyPost_ret (results_tmp3Q rfl _ _ _) rfl ?_)
    exact ⟨rfl, HB1.out⟩)
end Go.Proofs.YtlpnaifagiddlaaDoor
