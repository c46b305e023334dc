/- spec.SamePack at lists of whole numbers. PRINTED by wip/genjk.py. -/
import Derived.Test.YtikpmeedjdddoaaDoorJf
import Derived.StillTailTactics
namespace Go.Proofs.YtikpmeedjdddoaaDoor
open Go.RowKit
set_option linter.unusedVariables false

theorem wrap_low (u : Int) (h0 : 9223372036854775808 ≤ u) (h1 : u < 18446744073709551616) : wrap64 u < 0 := by unfold wrap64; omega
theorem wrap_same (u : Int) (h0 : 0 ≤ u) (h1 : u < 9223372036854775808) : wrap64 u = u := by unfold wrap64; omega

set_option maxHeartbeats 1000000 in
set_option maxRecDepth 100000 in
theorem SamePack_plain (w : World) (k u x : Int) (s : ByteArray) (hk : (k == 2) = false) :
    Calls Tryd.prog 10 #[.agg #[.int .i64 k, .int .u64 u, .string s, .int .i64 x, .slice none 0 0], .agg #[.int .i64 k, .int .u64 u, .string s, .int .i64 x, .slice none 0 0]] w fun e w' => e = .returned (.bool true) ∧ Below w.heap.size w w' := by
  go_enter Tryd.func10, Tryd.ntmps10
  go_wp2
  refine wp_loop_rounds 1 ?_
  rw [rounds_succ]
  go_wp2
  go_ret
  exact ⟨rfl, by first | exact ((Below.refl _ w).alloc (Nat.le_refl _) _).alloc (by simp) _ | exact (((Below.refl _ w).alloc (Nat.le_refl _) _).alloc (by simp) _).setCell (by simp) _⟩

set_option maxHeartbeats 1000000 in
set_option maxRecDepth 100000 in
theorem SamePack_neg (w : World) (u x : Int) (s : ByteArray) (h0 : 9223372036854775808 ≤ u) (h1 : u < 18446744073709551616) :
    Calls Tryd.prog 10 #[.agg #[.int .i64 2, .int .u64 u, .string s, .int .i64 x, .slice none 0 0], .agg #[.int .i64 2, .int .u64 u, .string s, .int .i64 x, .slice none 0 0]] w fun e w' => e = .returned (.bool true) ∧ Below w.heap.size w w' := by
  have hw : wrap64 u < 0 := wrap_low u h0 h1
  go_enter Tryd.func10, Tryd.ntmps10
  go_wp2
  refine wp_loop_rounds 1 ?_
  rw [rounds_succ]
  go_wp2
  go_ret
  exact ⟨rfl, by first | exact ((Below.refl _ w).alloc (Nat.le_refl _) _).alloc (by simp) _ | exact (((Below.refl _ w).alloc (Nat.le_refl _) _).alloc (by simp) _).setCell (by simp) _⟩

set_option maxHeartbeats 1000000 in
set_option maxRecDepth 100000 in
theorem SamePack_posR (w : World) (u x : Int) (s : ByteArray) (h0 : 0 ≤ u) (h1 : u < 9223372036854775808) :
    Calls Tryd.prog 10 #[.agg #[.int .i64 3, .int .u64 u, .string s, .int .i64 x, .slice none 0 0], .agg #[.int .i64 2, .int .u64 u, .string s, .int .i64 x, .slice none 0 0]] w fun e w' => e = .returned (.bool true) ∧ Below w.heap.size w w' := by
  have hw : wrap64 u = u := wrap_same u h0 h1
  go_enter Tryd.func10, Tryd.ntmps10
  go_wp2
  refine wp_loop_rounds 1 ?_
  rw [rounds_succ]
  go_wp2
  go_ret
  exact ⟨rfl, by first | exact ((Below.refl _ w).alloc (Nat.le_refl _) _).alloc (by simp) _ | exact (((Below.refl _ w).alloc (Nat.le_refl _) _).alloc (by simp) _).setCell (by simp) _⟩

/-- Values in a row, as they are read. -/
def KRow (w : World) (A : Option Addr) (n : Nat) (xs : List Value) : Prop := 0 < n → ∃ g, A = some ⟨g, 0, none⟩ ∧ g < w.heap.size ∧ ∀ i u, xs[i]? = some u → w.cell? ⟨g, i, none⟩ = some u
theorem KRow.of_own {w : World} {base n c : Nat} {A : Option Addr} {t : TypeId} {xs : List Value} (h : w.ownsRow base t 5 (.slice A n c) n xs) : KRow w A n xs := by
  intro hn
  have hr := Reads.of_own h
  rcases h.2 with ⟨hv, h0⟩ | ⟨g, cap, cur, hv, _⟩
  · omega
  · cases hv
    obtain ⟨ad, had, hb, hc⟩ := hr.2 hn
    cases had
    refine ⟨g, rfl, hb, fun i u hu => ?_⟩
    have := hc i u hu
    rwa [add_lit, Nat.zero_add] at this
theorem KRow.below {w w' : World} {A : Option Addr} {n : Nat} {xs : List Value} (h : KRow w A n xs) (hb : Below w.heap.size w w') : KRow w' A n xs := by
  intro hn
  obtain ⟨g, hA, hg, hc⟩ := h hn
  exact ⟨g, hA, Nat.lt_of_lt_of_le hg hb.size, fun i u hu => (hb.cell (p := ⟨g, i, none⟩) hg).trans (hc i u hu)⟩
theorem fl5_at (f : Int → List Value) (hf : ∀ x, (f x).length = 5) (l : List Int) : ∀ (j i : Nat), j < l.length → i < 5 → (l.flatMap f)[j * 5 + i]? = (f (l.getD j 0))[i]? := by
  induction l with
  | nil => intro j i hj; simp at hj
  | cons x xs ih =>
    intro j i hj hi
    rw [List.flatMap_cons]
    cases j with
    | zero =>
      rw [List.getElem?_append_left (by rw [hf]; omega)]
      simp
    | succ j =>
      rw [List.getElem?_append_right (by rw [hf]; omega), hf, show (j + 1) * 5 + i - 5 = j * 5 + i by omega, ih j i (by simpa using hj) hi]
      simp

set_option maxHeartbeats 4000000 in
set_option maxRecDepth 100000 in
theorem SamePack_kids (w : World) (Aa Ab : Option Addr) (n ca cb : Nat) (ka ua kb ub : Int → Int) (l : List Int) (hn : n = l.length) (hn1 : n ≤ 1000) (ha : KRow w Aa n (l.flatMap fun x => n5 (ka x) (ua x))) (hb : KRow w Ab n (l.flatMap fun x => n5 (kb x) (ub x)))
    (hs : ∀ x, x ∈ l → ∀ W : World, Calls Tryd.prog 10 #[.agg #[.int .i64 (ka x), .int .u64 (ua x), .string ⟨#[]⟩, .int .i64 0, .slice none 0 0], .agg #[.int .i64 (kb x), .int .u64 (ub x), .string ⟨#[]⟩, .int .i64 0, .slice none 0 0]] W fun e w' => e = .returned (.bool true) ∧ Below W.heap.size W w') :
    Calls Tryd.prog 10 #[.agg #[.int .i64 8, .int .u64 0, .string ⟨#[]⟩, .int .i64 0, .slice Aa n ca], .agg #[.int .i64 8, .int .u64 0, .string ⟨#[]⟩, .int .i64 0, .slice Ab n cb]] w fun e w' => e = .returned (.bool true) ∧ Below w.heap.size w w' := by
  have HA := Lib.hid ha
  have HB := Lib.hid hb
  have HS := Lib.hid hs
  have HN := Lib.hid hn
  clear ha hb hs hn
  go_enter Tryd.func10, Tryd.ntmps10
  go_wp2
  go_loopw [64] (fun i wr => ∃ j : Nat, j ≤ n ∧ i = .int .i64 j ∧ Hid (Below (w.heap.size + 1 + 1) ((w.alloc (.cells #[.int .i64 8, .int .u64 0, .string ⟨#[]⟩, .int .i64 0, .slice Aa n ca] 28)).alloc (.cells #[.int .i64 8, .int .u64 0, .string ⟨#[]⟩, .int .i64 0, .slice Ab n cb] 28)) wr)) (fun i _ => n - (intOf i).toNat)
  case atStart => exact ⟨0, Nat.zero_le _, rfl, Below.refl _ _⟩
  case round =>
    obtain ⟨j, hj, rfl, hst⟩ := hrel
    have hba : Blk wr w.heap.size 28 [.int .i64 8, .int .u64 0, .string ⟨#[]⟩, .int .i64 0, .slice Aa n ca] := ((Blk.new w 28 [_, _, _, _, _]).alloc _).below hst.out (by omega)
    have hbb : Blk wr (w.heap.size + 1) 28 [.int .i64 8, .int .u64 0, .string ⟨#[]⟩, .int .i64 0, .slice Ab n cb] := by
      have := Blk.new (w.alloc (.cells #[.int .i64 8, .int .u64 0, .string ⟨#[]⟩, .int .i64 0, .slice Aa n ca] 28)) 28 [.int .i64 8, .int .u64 0, .string ⟨#[]⟩, .int .i64 0, .slice Ab n cb]
      rw [show (w.alloc (.cells #[.int .i64 8, .int .u64 0, .string ⟨#[]⟩, .int .i64 0, .slice Aa n ca] 28)).heap.size = w.heap.size + 1 by simp] at this
      exact this.below hst.out (by omega)
    have hbel : Below w.heap.size w wr := ((((Below.refl _ w).alloc (Nat.le_refl _) _).alloc (by simp) _)).trans (hst.out.mono (by omega))
    have v4 : wr.cell? ⟨w.heap.size, 4, none⟩ = some (.slice Aa n ca) := hba.cell 4
    have x4 : wr.cell? ⟨w.heap.size + 1, 4, none⟩ = some (.slice Ab n cb) := hbb.cell 4
    have zb := hbb.lt
    have hzz : w.heap.size + 1 + 1 ≤ wr.heap.size := zb
    have HBEL := Lib.hid hbel
    clear hba hbb hbel
    by_cases hlt : j < n
    · obtain ⟨ga, hga, hla, hca⟩ := HA.out (by omega)
      obtain ⟨gb, hgb, hlb, hcb⟩ := HB.out (by omega)
      subst hga
      subst hgb
      have hjl : j < l.length := by rw [← HN.out]; exact hlt
      obtain ⟨x, hX⟩ : ∃ x, x = l.getD j 0 := ⟨_, rfl⟩
      have hxl : x ∈ l := by rw [hX]; exact getD_memS l j hjl
      have hsx := HS.out x hxl wr.drew
      have hbelc : ∀ (g : Nat) (i : Nat) {u : Value}, g < w.heap.size → w.cell? ⟨g, i, none⟩ = some u → wr.cell? ⟨g, i, none⟩ = some u := fun g i u hg hu => (HBEL.out.cell (p := ⟨g, i, none⟩) hg).trans hu
      have hata : ∀ i, i < 5 → (l.flatMap fun x => n5 (ka x) (ua x))[j * 5 + i]? = (n5 (ka x) (ua x))[i]? := fun i hi => by rw [hX]; exact fl5_at (fun x => n5 (ka x) (ua x)) (fun _ => rfl) l j i hjl hi
      have hatb : ∀ i, i < 5 → (l.flatMap fun x => n5 (kb x) (ub x))[j * 5 + i]? = (n5 (kb x) (ub x))[i]? := fun i hi => by rw [hX]; exact fl5_at (fun x => n5 (kb x) (ub x)) (fun _ => rfl) l j i hjl hi
      obtain ⟨k1, hk1⟩ : ∃ k1, k1 = ka x := ⟨_, rfl⟩
      obtain ⟨k2, hk2⟩ : ∃ k2, k2 = kb x := ⟨_, rfl⟩
      obtain ⟨u1, hu1⟩ : ∃ u1, u1 = ua x := ⟨_, rfl⟩
      obtain ⟨u2, hu2⟩ : ∃ u2, u2 = ub x := ⟨_, rfl⟩
      rw [← hk1, ← hk2, ← hu1, ← hu2] at hsx
      rw [← hk1, ← hu1] at hata
      rw [← hk2, ← hu2] at hatb
      have ca0 : wr.cell? ⟨ga, j * 5, none⟩ = some (.int .i64 k1) := hbelc ga _ hla (hca (j * 5 + 0) _ (hata 0 (by omega)))
      have ca1 : wr.cell? ⟨ga, j * 5 + 1, none⟩ = some (.int .u64 u1) := hbelc ga _ hla (hca (j * 5 + 1) _ (hata 1 (by omega)))
      have ca2 : wr.cell? ⟨ga, j * 5 + 2, none⟩ = some (.string ⟨#[]⟩) := hbelc ga _ hla (hca (j * 5 + 2) _ (hata 2 (by omega)))
      have ca3 : wr.cell? ⟨ga, j * 5 + 3, none⟩ = some (.int .i64 0) := hbelc ga _ hla (hca (j * 5 + 3) _ (hata 3 (by omega)))
      have ca4 : wr.cell? ⟨ga, j * 5 + 4, none⟩ = some (.slice none 0 0) := hbelc ga _ hla (hca (j * 5 + 4) _ (hata 4 (by omega)))
      have cb0 : wr.cell? ⟨gb, j * 5, none⟩ = some (.int .i64 k2) := hbelc gb _ hlb (hcb (j * 5 + 0) _ (hatb 0 (by omega)))
      have cb1 : wr.cell? ⟨gb, j * 5 + 1, none⟩ = some (.int .u64 u2) := hbelc gb _ hlb (hcb (j * 5 + 1) _ (hatb 1 (by omega)))
      have cb2 : wr.cell? ⟨gb, j * 5 + 2, none⟩ = some (.string ⟨#[]⟩) := hbelc gb _ hlb (hcb (j * 5 + 2) _ (hatb 2 (by omega)))
      have cb3 : wr.cell? ⟨gb, j * 5 + 3, none⟩ = some (.int .i64 0) := hbelc gb _ hlb (hcb (j * 5 + 3) _ (hatb 3 (by omega)))
      have cb4 : wr.cell? ⟨gb, j * 5 + 4, none⟩ = some (.slice none 0 0) := hbelc gb _ hlb (hcb (j * 5 + 4) _ (hatb 4 (by omega)))
      have HSX := Lib.hid hsx
      clear hca hcb hata hatb hX hbelc hsx hxl hk1 hk2 hu1 hu2
      have hj1 : (0 : Int) ≤ (j : Int) := by omega
      have hj2 : (j : Int) < (n : Int) := by omega
      go_wp2
      go_still_tail 10, (by kernel_rfl)
      change wpList _ _ _ _ _ wr.drew
      go_wp2_with (
        (go_at_call 10)
        go_must (
          (refine HSX.out.mono ?_)
          rintro r w2 ⟨rfl, hb2⟩
          have HB2 := Lib.hid (hst.out.drew.trans (hb2.mono (show w.heap.size + 1 + 1 ≤ wr.heap.size from hzz)))
          clear hb2))
      go_roundw
      case rel => exact ⟨j + 1, by omega, by go_num, HB2.out⟩
      case measure => simp [intOf]; omega
    · obtain rfl : j = n := by omega
      have hkm2 : decide ((j : Int) < (j : Int)) = false := decide_eq_false (by omega)
      go_wp2
      go_ret
      exact ⟨rfl, HBEL.out⟩
end Go.Proofs.YtikpmeedjdddoaaDoor
