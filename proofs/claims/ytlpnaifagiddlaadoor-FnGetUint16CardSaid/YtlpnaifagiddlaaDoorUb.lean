/- ReadUint64Bytes at what PutPack writes; ReadUint16Bytes, GetUint16. PRINTED by wip/genub.py. -/
import Derived.Test.YtlpnaifagiddlaaDoorPz
import Derived.Test.YtlpnaifagiddlaaDoorUa
namespace Go.Proofs.YtlpnaifagiddlaaDoor
open Go.RowKit
set_option linter.unusedVariables false

theorem RU_in (W : World) (B c : Nat) (A : Option Addr) (n : Int) (enc : List Int) (hf : IntF n enc) (h0 : 0 ≤ n) (h1 : n < 18446744073709551616) (tot : List Int) (h : Reads W B 1 A (enc ++ tot).length (bs (enc ++ tot))) (hmc : (enc ++ tot).length ≤ c) (hcm : c ≤ maxLen) (hB : B ≤ W.heap.size) :
    Calls Tryd.prog 53 #[.slice A (enc ++ tot).length c] W (RB .u64 n tot B W) := by
  have hl := intF_len hf
  obtain ⟨ad, rfl, _, _⟩ := h.2 (by rw [List.length_append]; omega)
  have e1 : (2 : Int) ^ (8 * 1) = 256 := by decide
  have e2 : (2 : Int) ^ (8 * 2) = 65536 := by decide
  have e4 : (2 : Int) ^ (8 * 4) = 4294967296 := by decide
  rcases hf with ⟨a, b, rfl⟩ | ⟨a, b, rfl⟩ | ⟨p, hp, hok, a, rfl⟩ | ⟨p, hp, a, b, rfl⟩
  · rw [lenQ _ tot 1 rfl] at h hmc ⊢; exact ReadUint64Bytes_fix W B c ad n tot h hmc hcm hB a b
  · omega
  · simp only [List.mem_cons, List.not_mem_nil, or_false] at hp
    rcases hp with rfl | rfl | rfl | rfl
    · simp only [okF, e1, Bool.or_eq_true, decide_eq_true_eq] at hok
      simp only [be1Q] at h hmc ⊢
      have e : n % 256 = n := by omega
      rw [e] at h hmc ⊢
      rw [lenQ _ tot 2 rfl] at h hmc ⊢; exact ReadUint64Bytes_u1 W B c ad n tot h hmc hcm hB a (by omega)
    · simp only [okF, e2, Bool.or_eq_true, decide_eq_true_eq] at hok
      simp only [be2Q] at h hmc ⊢
      rw [lenQ _ tot 3 rfl] at h hmc ⊢; exact ReadUint64Bytes_u2 W B c ad n tot h hmc hcm hB a (by omega)
    · simp only [okF, e4, Bool.or_eq_true, decide_eq_true_eq] at hok
      simp only [be4Q] at h hmc ⊢
      rw [lenQ _ tot 5 rfl] at h hmc ⊢; exact ReadUint64Bytes_u4 W B c ad n tot h hmc hcm hB a (by omega)
    · simp only [be8Q] at h hmc ⊢
      rw [lenQ _ tot 9 rfl] at h hmc ⊢; exact ReadUint64Bytes_u8 W B c ad n tot h hmc hcm hB a (by omega)
  · simp only [List.mem_cons, List.not_mem_nil, or_false] at hp
    rcases hp with rfl | rfl | rfl | rfl
    · simp only [Nat.reduceMul, Nat.reduceSub, Int.reducePow] at a b
      simp only [be1Q] at h hmc ⊢
      have e : n % 256 = n := by omega
      rw [e] at h hmc ⊢
      rw [lenQ _ tot 2 rfl] at h hmc ⊢; exact ReadUint64Bytes_i1 W B c ad n tot h hmc hcm hB h0 (by omega)
    · simp only [Nat.reduceMul, Nat.reduceSub, Int.reducePow] at a b
      simp only [be2Q] at h hmc ⊢
      rw [lenQ _ tot 3 rfl] at h hmc ⊢; exact ReadUint64Bytes_i2 W B c ad n tot h hmc hcm hB h0 (by omega)
    · simp only [Nat.reduceMul, Nat.reduceSub, Int.reducePow] at a b
      simp only [be4Q] at h hmc ⊢
      rw [lenQ _ tot 5 rfl] at h hmc ⊢; exact ReadUint64Bytes_i4 W B c ad n tot h hmc hcm hB h0 (by omega)
    · simp only [Nat.reduceMul, Nat.reduceSub, Int.reducePow] at a b
      simp only [be8Q] at h hmc ⊢
      rw [lenQ _ tot 9 rfl] at h hmc ⊢; exact ReadUint64Bytes_i8 W B c ad n tot h hmc hcm hB h0 (by omega)
theorem RU_neg (W : World) (B c : Nat) (A : Option Addr) (n : Int) (enc : List Int) (hf : IntF n enc) (h0 : n < 0) (tot : List Int) (h : Reads W B 1 A (enc ++ tot).length (bs (enc ++ tot))) (hmc : (enc ++ tot).length ≤ c) (hcm : c ≤ maxLen) (hB : B ≤ W.heap.size) :
    Calls Tryd.prog 53 #[.slice A (enc ++ tot).length c] W (RE .u64 W) := by
  have hl := intF_len hf
  obtain ⟨ad, rfl, _, _⟩ := h.2 (by rw [List.length_append]; omega)
  have e1 : (2 : Int) ^ (8 * 1) = 256 := by decide
  have e2 : (2 : Int) ^ (8 * 2) = 65536 := by decide
  have e4 : (2 : Int) ^ (8 * 4) = 4294967296 := by decide
  rcases hf with ⟨a, b, rfl⟩ | ⟨a, b, rfl⟩ | ⟨p, hp, hok, a, rfl⟩ | ⟨p, hp, a, b, rfl⟩
  · omega
  · rw [lenQ _ tot 1 rfl] at h hmc ⊢; exact ReadUint64Bytes_neg W B c ad n tot h hmc hcm hB a b
  · omega
  · simp only [List.mem_cons, List.not_mem_nil, or_false] at hp
    rcases hp with rfl | rfl | rfl | rfl
    · simp only [Nat.reduceMul, Nat.reduceSub, Int.reducePow] at a b
      simp only [be1Q] at h hmc ⊢
      have e : n % 256 = n + 256 := by omega
      rw [e] at h hmc ⊢
      rw [lenQ _ tot 2 rfl] at h hmc ⊢; exact ReadUint64Bytes_n1 W B c ad n tot h hmc hcm hB (by omega) h0
    · simp only [Nat.reduceMul, Nat.reduceSub, Int.reducePow] at a b
      simp only [be2Q] at h hmc ⊢
      rw [lenQ _ tot 3 rfl] at h hmc ⊢; exact ReadUint64Bytes_n2 W B c ad n tot h hmc hcm hB (by omega) h0
    · simp only [Nat.reduceMul, Nat.reduceSub, Int.reducePow] at a b
      simp only [be4Q] at h hmc ⊢
      rw [lenQ _ tot 5 rfl] at h hmc ⊢; exact ReadUint64Bytes_n4 W B c ad n tot h hmc hcm hB (by omega) h0
    · simp only [Nat.reduceMul, Nat.reduceSub, Int.reducePow] at a b
      simp only [be8Q] at h hmc ⊢
      rw [lenQ _ tot 9 rfl] at h hmc ⊢; exact ReadUint64Bytes_n8 W B c ad n tot h hmc hcm hB (by omega) h0
/-- An integer of which the end is cut off. -/
theorem RU_cut (W : World) (B c : Nat) (A : Option Addr) (n : Int) (enc : List Int) (hf : IntF n enc) (m : Nat) (hm : m < enc.length) (h : Reads W B 1 A m (bs (enc.take m))) (hmc : m ≤ c) (hcm : c ≤ maxLen) (hB : B ≤ W.heap.size)
    (ts : TypeId) (vs : Value) (hsh : W.cell? ⟨1, 0, none⟩ = some (.iface ts vs)) :
    Calls Tryd.prog 53 #[.slice A m c] W (RE .u64 W) := by
  by_cases hz : m = 0
  · subst hz
    exact ReadUint64Bytes_none W c A ts vs hsh
  obtain ⟨k, rfl⟩ : ∃ k, m = k + 1 := ⟨m - 1, by omega⟩
  obtain ⟨ad, rfl, _, _⟩ := h.2 (by omega)
  rcases hf with ⟨a, b, rfl⟩ | ⟨a, b, rfl⟩ | ⟨p, hp, hok, a, rfl⟩ | ⟨p, hp, a, b, rfl⟩
  · simp at hm
  · simp at hm
  · simp only [List.mem_cons, List.not_mem_nil, or_false] at hp
    rcases hp with rfl | rfl | rfl | rfl
    · have hlt : k < 1 := by simp only [List.length_cons, be_length] at hm; omega
      have hk : ((be n 1).take k).length = k := by rw [List.length_take, be_length]; omega
      have h' : Reads W B 1 (some ad) (k + 1) (bs (204 :: (be n 1).take k)) := by simpa only [List.take_succ_cons] using h
      obtain ⟨tot, htot⟩ : ∃ tot, tot = (be n 1).take k := ⟨_, rfl⟩
      rw [← htot] at h' hk
      subst hk
      exact ReadUint64Bytes_s204 W B c ad 0 tot h' hmc hcm hB hlt ts vs hsh
    · have hlt : k < 2 := by simp only [List.length_cons, be_length] at hm; omega
      have hk : ((be n 2).take k).length = k := by rw [List.length_take, be_length]; omega
      have h' : Reads W B 1 (some ad) (k + 1) (bs (205 :: (be n 2).take k)) := by simpa only [List.take_succ_cons] using h
      obtain ⟨tot, htot⟩ : ∃ tot, tot = (be n 2).take k := ⟨_, rfl⟩
      rw [← htot] at h' hk
      subst hk
      exact ReadUint64Bytes_s205 W B c ad 0 tot h' hmc hcm hB hlt ts vs hsh
    · have hlt : k < 4 := by simp only [List.length_cons, be_length] at hm; omega
      have hk : ((be n 4).take k).length = k := by rw [List.length_take, be_length]; omega
      have h' : Reads W B 1 (some ad) (k + 1) (bs (206 :: (be n 4).take k)) := by simpa only [List.take_succ_cons] using h
      obtain ⟨tot, htot⟩ : ∃ tot, tot = (be n 4).take k := ⟨_, rfl⟩
      rw [← htot] at h' hk
      subst hk
      exact ReadUint64Bytes_s206 W B c ad 0 tot h' hmc hcm hB hlt ts vs hsh
    · have hlt : k < 8 := by simp only [List.length_cons, be_length] at hm; omega
      have hk : ((be n 8).take k).length = k := by rw [List.length_take, be_length]; omega
      have h' : Reads W B 1 (some ad) (k + 1) (bs (207 :: (be n 8).take k)) := by simpa only [List.take_succ_cons] using h
      obtain ⟨tot, htot⟩ : ∃ tot, tot = (be n 8).take k := ⟨_, rfl⟩
      rw [← htot] at h' hk
      subst hk
      exact ReadUint64Bytes_s207 W B c ad 0 tot h' hmc hcm hB hlt ts vs hsh
  · simp only [List.mem_cons, List.not_mem_nil, or_false] at hp
    rcases hp with rfl | rfl | rfl | rfl
    · have hlt : k < 1 := by simp only [List.length_cons, be_length] at hm; omega
      have hk : ((be n 1).take k).length = k := by rw [List.length_take, be_length]; omega
      have h' : Reads W B 1 (some ad) (k + 1) (bs (208 :: (be n 1).take k)) := by simpa only [List.take_succ_cons] using h
      obtain ⟨tot, htot⟩ : ∃ tot, tot = (be n 1).take k := ⟨_, rfl⟩
      rw [← htot] at h' hk
      subst hk
      exact ReadUint64Bytes_s208 W B c ad 0 tot h' hmc hcm hB hlt ts vs hsh
    · have hlt : k < 2 := by simp only [List.length_cons, be_length] at hm; omega
      have hk : ((be n 2).take k).length = k := by rw [List.length_take, be_length]; omega
      have h' : Reads W B 1 (some ad) (k + 1) (bs (209 :: (be n 2).take k)) := by simpa only [List.take_succ_cons] using h
      obtain ⟨tot, htot⟩ : ∃ tot, tot = (be n 2).take k := ⟨_, rfl⟩
      rw [← htot] at h' hk
      subst hk
      exact ReadUint64Bytes_s209 W B c ad 0 tot h' hmc hcm hB hlt ts vs hsh
    · have hlt : k < 4 := by simp only [List.length_cons, be_length] at hm; omega
      have hk : ((be n 4).take k).length = k := by rw [List.length_take, be_length]; omega
      have h' : Reads W B 1 (some ad) (k + 1) (bs (210 :: (be n 4).take k)) := by simpa only [List.take_succ_cons] using h
      obtain ⟨tot, htot⟩ : ∃ tot, tot = (be n 4).take k := ⟨_, rfl⟩
      rw [← htot] at h' hk
      subst hk
      exact ReadUint64Bytes_s210 W B c ad 0 tot h' hmc hcm hB hlt ts vs hsh
    · have hlt : k < 8 := by simp only [List.length_cons, be_length] at hm; omega
      have hk : ((be n 8).take k).length = k := by rw [List.length_take, be_length]; omega
      have h' : Reads W B 1 (some ad) (k + 1) (bs (211 :: (be n 8).take k)) := by simpa only [List.take_succ_cons] using h
      obtain ⟨tot, htot⟩ : ∃ tot, tot = (be n 8).take k := ⟨_, rfl⟩
      rw [← htot] at h' hk
      subst hk
      exact ReadUint64Bytes_s211 W B c ad 0 tot h' hmc hcm hB hlt ts vs hsh
/-- Bytes that begin no integer. -/
theorem RU_other (W : World) (B c : Nat) (A : Option Addr) (b : Int) (tot : List Int) (h0 : 128 ≤ b) (h1 : b < 224) (h2 : b < 204 ∨ 211 < b) (h : Reads W B 1 A (b :: tot).length (bs (b :: tot))) (hmc : (b :: tot).length ≤ c) (hcm : c ≤ maxLen) (hB : B ≤ W.heap.size) :
    Calls Tryd.prog 53 #[.slice A (b :: tot).length c] W (RE .u64 W) := by
  obtain ⟨ad, rfl, _, _⟩ := h.2 (by simp)
  exact ReadUint64Bytes_other W B c ad b tot h hmc hcm hB h0 h1 h2

set_option maxHeartbeats 2000000 in
set_option maxRecDepth 100000 in
theorem RU16_ok (W : World) (m c : Nat) (A : Option Addr) (n : Int) (tot : List Int) (B : Nat) (h0 : 0 ≤ n) (h1 : n ≤ 65535) (h : Calls Tryd.prog 53 #[.slice A m c] W (RB .u64 n tot B W)) :
    Calls Tryd.prog 36 #[.slice A m c] W (RB .u16 n tot B W) := by
  have d0 : decide (65535 < n) = false := decide_eq_false (by omega)
  have H := Lib.hid h
  clear h
  go_enter Tryd.func36, Tryd.ntmps36
  go_wp2_with (first
    | (go_at_call 53
       go_must (
         (refine H.out.mono ?_)
         rintro e w1 ⟨A1, c1, rfl, hl1, hm1, hr1, hb1⟩
         have HR1 := Lib.hid hr1
         have HB1 := Lib.hid hb1
         clear hr1 hb1)))
  all_goals (
    ((try simp only [Exit.inBlock, Exit.then]); refine bodyPost_ret (results_tmp3Q rfl _ _ _) rfl ?_)
    exact ⟨A1, c1, rfl, hl1, hm1, HR1.out, HB1.out⟩)

set_option maxHeartbeats 2000000 in
set_option maxRecDepth 100000 in
theorem RU16_no (W : World) (m c : Nat) (A : Option Addr) (h : Calls Tryd.prog 53 #[.slice A m c] W (RE .u64 W)) :
    Calls Tryd.prog 36 #[.slice A m c] W (RX .u16 W) := by
  have H := Lib.hid h
  clear h
  go_enter Tryd.func36, Tryd.ntmps36
  go_wp2_with (first
    | (go_at_call 53
       go_must (
         (refine H.out.mono ?_)
         rintro e w1 ⟨⟨t, v, rfl⟩, hb1⟩
         have HB1 := Lib.hid hb1
         clear hb1)))
  all_goals (
    ((try simp only [Exit.inBlock, Exit.then]); refine bodyPost_ret (results_tmp3Q rfl _ _ _) rfl ?_)
    exact ⟨⟨_, _, _, _, _, rfl⟩, HB1.out⟩)

set_option maxHeartbeats 2000000 in
set_option maxRecDepth 100000 in
theorem RU16_big (W : World) (m c : Nat) (A : Option Addr) (n : Int) (tot : List Int) (B : Nat) (h0 : 65535 < n) (h : Calls Tryd.prog 53 #[.slice A m c] W (RB .u64 n tot B W)) :
    Calls Tryd.prog 36 #[.slice A m c] W (RX .u16 W) := by
  have d0 : decide (65535 < n) = true := decide_eq_true (by omega)
  have H := Lib.hid h
  clear h
  go_enter Tryd.func36, Tryd.ntmps36
  go_wp2_with (first
    | (go_at_call 53
       go_must (
         (refine H.out.mono ?_)
         rintro e w1 ⟨A1, c1, rfl, hl1, hm1, hr1, hb1⟩
         have HR1 := Lib.hid hr1
         have HB1 := Lib.hid hb1
         clear hr1 hb1)))
  all_goals (
    ((try simp only [Exit.inBlock, Exit.then]); refine bodyPost_ret (results_tmp3Q rfl _ _ _) rfl ?_)
    exact ⟨⟨_, _, _, _, _, rfl⟩, HB1.out⟩)

set_option maxHeartbeats 2000000 in
set_option maxRecDepth 100000 in
theorem GU16_ok (W : World) (m c : Nat) (A : Option Addr) (n : Int) (tot : List Int) (B : Nat) (hB : B ≤ W.heap.size) (ht : tot.length ≤ 100) (h : Calls Tryd.prog 36 #[.slice A m c] W (RB .u16 n tot B W)) :
    Calls Tryd.prog 21 #[.slice A m c] W (GB .u16 n tot W) := by
  have H := Lib.hid h
  clear h
  go_enter Tryd.func21, Tryd.ntmps21
  go_wp2_with (first
    | (go_at_call 36
       go_must (
         (refine H.out.mono ?_)
         rintro e w1 ⟨A1, c1, rfl, hl1, hm1, hr1, hb1⟩
         have HR1 := Lib.hid hr1
         have HB1 := Lib.hid hb1
         clear hr1 hb1))
    | (go_at_call 32
       go_must (
         (refine (copied_b _ A1 c1 tot (HR1.out.more (Nat.le_trans hB HB1.out.size)) (by omega)).mono ?_)
         rintro e w5 ⟨g5, cs5, rfl, hb5, hl5, hm5, ht5, hg5, hbel5⟩
         have hr5 : Reads w5 w5.heap.size 1 (some ⟨g5, 0, none⟩) tot.length (bs tot) := by
           have hr := (hb5.reads 0 tot.length (by omega)).more (show g5 + 1 ≤ w5.heap.size from hb5.lt)
           rw [List.drop_zero, ht5] at hr
           exact hr
         have HR5 := Lib.hid hr5
         have HB5 : Hid (Below W.heap.size W w5) := HB1.out.trans (hbel5.mono HB1.out.size)
         clear hb5 ht5 hr5 hbel5)))
  all_goals (
    ((try simp only [Exit.inBlock, Exit.then]); refine bodyPost_ret (results_tmp3Q rfl _ _ _) rfl ?_)
    exact ⟨_, _, rfl, HR5.out, HB5.out⟩)

set_option maxHeartbeats 2000000 in
set_option maxRecDepth 100000 in
theorem GU16_no (W : World) (m c : Nat) (A : Option Addr) (h : Calls Tryd.prog 36 #[.slice A m c] W (RX .u16 W)) :
    Calls Tryd.prog 21 #[.slice A m c] W (GE .u16 W) := by
  have H := Lib.hid h
  clear h
  go_enter Tryd.func21, Tryd.ntmps21
  go_wp2_with (first
    | (go_at_call 36
       go_must (
         (refine H.out.mono ?_)
         rintro e w1 ⟨⟨A1, m1, c1, t, v, rfl⟩, hb1⟩
         have HB1 := Lib.hid hb1
         clear hb1)))
  all_goals (
    ((try simp only [Exit.inBlock, Exit.then]); refine bodyPost_ret (results_tmp3Q rfl _ _ _) rfl ?_)
    exact ⟨rfl, HB1.out⟩)

/-- The value is an integer without a sign that so many bits hold. -/
def FitU (hi : Int) (T : PT) : Prop := (T.k = 3 ∨ (T.k = 2 ∧ T.u ≤ 9223372036854775807)) ∧ T.u ≤ hi
theorem FP_uint {T : PT} {enc : List Int} (hf : FP T enc) (h : T.k = 3 ∨ (T.k = 2 ∧ T.u ≤ 9223372036854775807)) (hu : 0 ≤ T.u) : IntF T.u enc := by
  obtain ⟨⟨a0, a1, a2, a3, a4, a5, a6, a7⟩, hx1, hx2⟩ := hf
  rcases h with h | ⟨h, hm⟩
  · exact a3 h
  · have e : wrap64 T.u = T.u := by unfold wrap64; omega
    rw [← e]
    exact a2 h
theorem RU64_unfit (W : World) (B c : Nat) (A : Option Addr) (T : PT) (enc tot : List Int) (hf : FP T enc) (hfit : Fits T 6) (hwf : T.wf) (hk : ¬ (T.k = 3 ∨ (T.k = 2 ∧ T.u ≤ 9223372036854775807))) (h : Reads W B 1 A (enc ++ tot).length (bs (enc ++ tot))) (hmc : (enc ++ tot).length ≤ c) (hcm : c ≤ maxLen) (hB : B ≤ W.heap.size) :
    Calls Tryd.prog 53 #[.slice A (enc ++ tot).length c] W (RE .u64 W) := by
  obtain ⟨_, _, hu0, hu1, _⟩ := hwf
  by_cases h2 : T.k = 2
  · exact RU_neg W B c A _ enc (hf.1.2.2.1 h2) (by unfold wrap64; omega) tot h hmc hcm hB
  have hok : T.ok 6 := by cases T with | nil => exact hfit.elim | mk => exact hfit.1
  obtain ⟨_, k0, k10, _, _, _, _, _, _, k1, _⟩ := hok
  obtain ⟨b, r, rfl, b0, b1, b2⟩ := FP_other hf k0 k10 hu0 k1 h2 (by omega)
  exact RU_other W B c A b (r ++ tot) b0 b1 b2 h hmc hcm hB
theorem RU64_cut (W : World) (B c : Nat) (A : Option Addr) (T : PT) (enc : List Int) (hf : FP T enc) (hfit : Fits T 6) (hwf : T.wf) (m : Nat) (hm : m < enc.length) (h : Reads W B 1 A m (bs (enc.take m))) (hmc : m ≤ c) (hcm : c ≤ maxLen) (hB : B ≤ W.heap.size)
    (ts : TypeId) (vs : Value) (hsh : W.cell? ⟨1, 0, none⟩ = some (.iface ts vs)) :
    Calls Tryd.prog 53 #[.slice A m c] W (RE .u64 W) := by
  obtain ⟨_, _, hu0, hu1, _⟩ := hwf
  by_cases h2 : T.k = 2
  · exact RU_cut W B c A _ enc (hf.1.2.2.1 h2) m hm h hmc hcm hB ts vs hsh
  by_cases h3 : T.k = 3
  · exact RU_cut W B c A _ enc (hf.1.2.2.2.1 h3) m hm h hmc hcm hB ts vs hsh
  by_cases hz : m = 0
  · subst hz
    exact ReadUint64Bytes_none W c A ts vs hsh
  have hok : T.ok 6 := by cases T with | nil => exact hfit.elim | mk => exact hfit.1
  obtain ⟨_, k0, k10, _, _, _, _, _, _, k1, _⟩ := hok
  obtain ⟨b, r, rfl, b0, b1, b2⟩ := FP_other hf k0 k10 hu0 k1 h2 h3
  obtain ⟨k, rfl⟩ : ∃ k, m = k + 1 := ⟨m - 1, by omega⟩
  have hk : (b :: r.take k).length = k + 1 := by simp only [List.length_cons, List.length_take] at hm ⊢; omega
  have h' : Reads W B 1 A (b :: r.take k).length (bs (b :: r.take k)) := by rw [hk]; simpa only [List.take_succ_cons] using h
  have ho := RU_other W B c A b (r.take k) b0 b1 b2 h' (by rw [hk]; exact hmc) hcm hB
  rw [hk] at ho
  exact ho
/-- GetUint16 of what is whole. -/
theorem GU16_whole (W : World) (c : Nat) (A : Option Addr) (T : PT) (enc tot : List Int) (hf : FP T enc) (hfit : Fits T 6) (hwf : T.wf) (ht : tot.length ≤ 100) (h : Reads W W.heap.size 1 A (enc ++ tot).length (bs (enc ++ tot))) (hmc : (enc ++ tot).length ≤ c) (hcm : c ≤ maxLen) :
    Calls Tryd.prog 21 #[.slice A (enc ++ tot).length c] W (fun e w' => (FitU 65535 T → GB .u16 T.u tot W e w') ∧ (¬ FitU 65535 T → GE .u16 W e w')) := by
  obtain ⟨_, _, hu0, hu1, _⟩ := id hwf
  by_cases hk : T.k = 3 ∨ (T.k = 2 ∧ T.u ≤ 9223372036854775807)
  · have r64 := RU_in W W.heap.size c A _ enc (FP_uint hf hk hu0) hu0 (by omega) tot h hmc hcm (Nat.le_refl _)
    by_cases hr : T.u ≤ 65535
    · exact (GU16_ok W _ c A _ tot W.heap.size (Nat.le_refl _) ht (RU16_ok W _ c A _ tot _ hu0 hr r64)).mono fun e w' he => ⟨fun _ => he, fun hh => absurd ⟨hk, hr⟩ hh⟩
    · exact (GU16_no W _ c A (RU16_big W _ c A _ tot _ (by omega) r64)).mono fun e w' he => ⟨fun hh => absurd hh.2 hr, fun _ => he⟩
  · have r64 := RU64_unfit W W.heap.size c A T enc tot hf hfit hwf hk h hmc hcm (Nat.le_refl _)
    exact (GU16_no W _ c A (RU16_no W _ c A r64)).mono fun e w' he => ⟨fun hh => absurd hh.1 hk, fun _ => he⟩
/-- GetUint16 of what is cut off. -/
theorem GU16_cut (W : World) (c : Nat) (A : Option Addr) (T : PT) (enc : List Int) (hf : FP T enc) (hfit : Fits T 6) (hwf : T.wf) (m : Nat) (hm : m < enc.length) (h : Reads W W.heap.size 1 A m (bs (enc.take m))) (hmc : m ≤ c) (hcm : c ≤ maxLen)
    (ts : TypeId) (vs : Value) (hsh : W.cell? ⟨1, 0, none⟩ = some (.iface ts vs)) :
    Calls Tryd.prog 21 #[.slice A m c] W (GE .u16 W) :=
  GU16_no W _ c A (RU16_no W _ c A (RU64_cut W W.heap.size c A T enc hf hfit hwf m hm h hmc hcm (Nat.le_refl _) ts vs hsh))
end Go.Proofs.YtlpnaifagiddlaaDoor
