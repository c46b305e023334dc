/- ReadInt64Bytes at what PutPack writes. PRINTED by wip/genpv.py. -/
import Derived.Test.YtlpnaifagiddlaaDoorPq
import Derived.Test.YtlpnaifagiddlaaDoorPu
namespace Go.Proofs.YtlpnaifagiddlaaDoor
open Go.RowKit
set_option linter.unusedVariables false

theorem be1Q (n : Int) : be n 1 = [n % 256] := by simp [be, byt]
theorem be2Q (n : Int) : be n 2 = [n / 256 % 256, n % 256] := by simp [be, byt]
theorem be4Q (n : Int) : be n 4 = [n / 16777216 % 256, n / 65536 % 256, n / 256 % 256, n % 256] := by simp [be, byt]
theorem be8Q (n : Int) : be n 8 = [n / 72057594037927936 % 256, n / 281474976710656 % 256, n / 1099511627776 % 256, n / 4294967296 % 256, n / 16777216 % 256, n / 65536 % 256, n / 256 % 256, n % 256] := by simp [be, byt]
theorem lenQ (e tot : List Int) (k : Nat) (he : e.length = k) : (e ++ tot).length = tot.length + k := by rw [List.length_append, he, Nat.add_comm]

theorem RI_in (W : World) (B c : Nat) (A : Option Addr) (n : Int) (enc : List Int) (hf : IntF n enc) (h1 : n ≤ 9223372036854775807) (tot : List Int) (h : Reads W B 1 A (enc ++ tot).length (bs (enc ++ tot))) (hmc : (enc ++ tot).length ≤ c) (hcm : c ≤ maxLen) (hB : B ≤ W.heap.size) :
    Calls Tryd.prog 52 #[.slice A (enc ++ tot).length c] W (RB .i64 n tot B W) := by
  have hl := intF_len hf
  obtain ⟨ad, rfl, _, _⟩ := h.2 (by rw [List.length_append]; omega)
  have e1 : (2 : Int) ^ (8 * 1) = 256 := by decide
  have e2 : (2 : Int) ^ (8 * 2) = 65536 := by decide
  have e4 : (2 : Int) ^ (8 * 4) = 4294967296 := by decide
  rcases hf with ⟨a, b, rfl⟩ | ⟨a, b, rfl⟩ | ⟨p, hp, hok, a, rfl⟩ | ⟨p, hp, a, b, rfl⟩
  · rw [lenQ _ tot 1 rfl] at h hmc ⊢; exact ReadInt64Bytes_fix W B c ad n tot h hmc hcm hB a b
  · rw [lenQ _ tot 1 rfl] at h hmc ⊢; exact ReadInt64Bytes_neg W B c ad n tot h hmc hcm hB a b
  · simp only [List.mem_cons, List.not_mem_nil, or_false] at hp
    rcases hp with rfl | rfl | rfl | rfl
    · simp only [okF, e1, Bool.or_eq_true, decide_eq_true_eq] at hok
      simp only [be1Q] at h hmc ⊢
      have e : n % 256 = n := by omega
      rw [e] at h hmc ⊢
      rw [lenQ _ tot 2 rfl] at h hmc ⊢; exact ReadInt64Bytes_u1 W B c ad n tot h hmc hcm hB a (by omega)
    · simp only [okF, e2, Bool.or_eq_true, decide_eq_true_eq] at hok
      simp only [be2Q] at h hmc ⊢
      rw [lenQ _ tot 3 rfl] at h hmc ⊢; exact ReadInt64Bytes_u2 W B c ad n tot h hmc hcm hB a (by omega)
    · simp only [okF, e4, Bool.or_eq_true, decide_eq_true_eq] at hok
      simp only [be4Q] at h hmc ⊢
      rw [lenQ _ tot 5 rfl] at h hmc ⊢; exact ReadInt64Bytes_u4 W B c ad n tot h hmc hcm hB a (by omega)
    · simp only [be8Q] at h hmc ⊢
      rw [lenQ _ tot 9 rfl] at h hmc ⊢; exact ReadInt64Bytes_u8 W B c ad n tot h hmc hcm hB a (by omega)
  · simp only [List.mem_cons, List.not_mem_nil, or_false] at hp
    rcases hp with rfl | rfl | rfl | rfl
    · simp only [Nat.reduceMul, Nat.reduceSub, Int.reducePow] at a b
      simp only [be1Q] at h hmc ⊢
      rw [lenQ _ tot 2 rfl] at h hmc ⊢; exact ReadInt64Bytes_i1 W B c ad n tot h hmc hcm hB (by omega) (by omega)
    · simp only [Nat.reduceMul, Nat.reduceSub, Int.reducePow] at a b
      simp only [be2Q] at h hmc ⊢
      rw [lenQ _ tot 3 rfl] at h hmc ⊢; exact ReadInt64Bytes_i2 W B c ad n tot h hmc hcm hB (by omega) (by omega)
    · simp only [Nat.reduceMul, Nat.reduceSub, Int.reducePow] at a b
      simp only [be4Q] at h hmc ⊢
      rw [lenQ _ tot 5 rfl] at h hmc ⊢; exact ReadInt64Bytes_i4 W B c ad n tot h hmc hcm hB (by omega) (by omega)
    · simp only [Nat.reduceMul, Nat.reduceSub, Int.reducePow] at a b
      simp only [be8Q] at h hmc ⊢
      rw [lenQ _ tot 9 rfl] at h hmc ⊢; exact ReadInt64Bytes_i8 W B c ad n tot h hmc hcm hB (by omega) (by omega)
theorem RI_over (W : World) (B c : Nat) (A : Option Addr) (n : Int) (enc : List Int) (hf : IntF n enc) (h0 : 9223372036854775808 ≤ n) (h1 : n < 18446744073709551616) (tot : List Int) (h : Reads W B 1 A (enc ++ tot).length (bs (enc ++ tot))) (hmc : (enc ++ tot).length ≤ c) (hcm : c ≤ maxLen) (hB : B ≤ W.heap.size) :
    Calls Tryd.prog 52 #[.slice A (enc ++ tot).length c] W (RE .i64 W) := by
  have hl := intF_len hf
  obtain ⟨ad, rfl, _, _⟩ := h.2 (by rw [List.length_append]; omega)
  have e1 : (2 : Int) ^ (8 * 1) = 256 := by decide
  have e2 : (2 : Int) ^ (8 * 2) = 65536 := by decide
  have e4 : (2 : Int) ^ (8 * 4) = 4294967296 := by decide
  rcases hf with ⟨a, b, rfl⟩ | ⟨a, b, rfl⟩ | ⟨p, hp, hok, a, rfl⟩ | ⟨p, hp, a, b, rfl⟩
  · omega
  · omega
  · simp only [List.mem_cons, List.not_mem_nil, or_false] at hp
    rcases hp with rfl | rfl | rfl | rfl
    · simp only [okF, e1, Bool.or_eq_true, decide_eq_true_eq] at hok
      omega
    · simp only [okF, e2, Bool.or_eq_true, decide_eq_true_eq] at hok
      omega
    · simp only [okF, e4, Bool.or_eq_true, decide_eq_true_eq] at hok
      omega
    · simp only [be8Q] at h hmc ⊢
      rw [lenQ _ tot 9 rfl] at h hmc ⊢; exact ReadInt64Bytes_o8 W B c ad n tot h hmc hcm hB (by omega) (by omega)
  · simp only [List.mem_cons, List.not_mem_nil, or_false] at hp
    rcases hp with rfl | rfl | rfl | rfl <;> (simp only [Nat.reduceMul, Nat.reduceSub, Int.reducePow] at a b; omega)
/-- An integer of which the end is cut off. -/
theorem RI_cut (W : World) (B c : Nat) (A : Option Addr) (n : Int) (enc : List Int) (hf : IntF n enc) (m : Nat) (hm : m < enc.length) (h : Reads W B 1 A m (bs (enc.take m))) (hmc : m ≤ c) (hcm : c ≤ maxLen) (hB : B ≤ W.heap.size)
    (ts : TypeId) (vs : Value) (hsh : W.cell? ⟨1, 0, none⟩ = some (.iface ts vs)) :
    Calls Tryd.prog 52 #[.slice A m c] W (RE .i64 W) := by
  by_cases hz : m = 0
  · subst hz
    exact ReadInt64Bytes_none W c A ts vs hsh
  obtain ⟨k, rfl⟩ : ∃ k, m = k + 1 := ⟨m - 1, by omega⟩
  obtain ⟨ad, rfl, _, _⟩ := h.2 (by omega)
  rcases hf with ⟨a, b, rfl⟩ | ⟨a, b, rfl⟩ | ⟨p, hp, hok, a, rfl⟩ | ⟨p, hp, a, b, rfl⟩
  · simp at hm
  · simp at hm
  · simp only [List.mem_cons, List.not_mem_nil, or_false] at hp
    rcases hp with rfl | rfl | rfl | rfl
    · have hlt : k < 1 := by simp only [List.length_cons, be_length] at hm; omega
      have hk : ((be n 1).take k).length = k := by rw [List.length_take, be_length]; omega
      have h' : Reads W B 1 (some ad) (k + 1) (bs (204 :: (be n 1).take k)) := by simpa only [List.take_succ_cons] using h
      obtain ⟨tot, htot⟩ : ∃ tot, tot = (be n 1).take k := ⟨_, rfl⟩
      rw [← htot] at h' hk
      subst hk
      exact ReadInt64Bytes_s204 W B c ad 0 tot h' hmc hcm hB hlt ts vs hsh
    · have hlt : k < 2 := by simp only [List.length_cons, be_length] at hm; omega
      have hk : ((be n 2).take k).length = k := by rw [List.length_take, be_length]; omega
      have h' : Reads W B 1 (some ad) (k + 1) (bs (205 :: (be n 2).take k)) := by simpa only [List.take_succ_cons] using h
      obtain ⟨tot, htot⟩ : ∃ tot, tot = (be n 2).take k := ⟨_, rfl⟩
      rw [← htot] at h' hk
      subst hk
      exact ReadInt64Bytes_s205 W B c ad 0 tot h' hmc hcm hB hlt ts vs hsh
    · have hlt : k < 4 := by simp only [List.length_cons, be_length] at hm; omega
      have hk : ((be n 4).take k).length = k := by rw [List.length_take, be_length]; omega
      have h' : Reads W B 1 (some ad) (k + 1) (bs (206 :: (be n 4).take k)) := by simpa only [List.take_succ_cons] using h
      obtain ⟨tot, htot⟩ : ∃ tot, tot = (be n 4).take k := ⟨_, rfl⟩
      rw [← htot] at h' hk
      subst hk
      exact ReadInt64Bytes_s206 W B c ad 0 tot h' hmc hcm hB hlt ts vs hsh
    · have hlt : k < 8 := by simp only [List.length_cons, be_length] at hm; omega
      have hk : ((be n 8).take k).length = k := by rw [List.length_take, be_length]; omega
      have h' : Reads W B 1 (some ad) (k + 1) (bs (207 :: (be n 8).take k)) := by simpa only [List.take_succ_cons] using h
      obtain ⟨tot, htot⟩ : ∃ tot, tot = (be n 8).take k := ⟨_, rfl⟩
      rw [← htot] at h' hk
      subst hk
      exact ReadInt64Bytes_s207 W B c ad 0 tot h' hmc hcm hB hlt ts vs hsh
  · simp only [List.mem_cons, List.not_mem_nil, or_false] at hp
    rcases hp with rfl | rfl | rfl | rfl
    · have hlt : k < 1 := by simp only [List.length_cons, be_length] at hm; omega
      have hk : ((be n 1).take k).length = k := by rw [List.length_take, be_length]; omega
      have h' : Reads W B 1 (some ad) (k + 1) (bs (208 :: (be n 1).take k)) := by simpa only [List.take_succ_cons] using h
      obtain ⟨tot, htot⟩ : ∃ tot, tot = (be n 1).take k := ⟨_, rfl⟩
      rw [← htot] at h' hk
      subst hk
      exact ReadInt64Bytes_s208 W B c ad 0 tot h' hmc hcm hB hlt ts vs hsh
    · have hlt : k < 2 := by simp only [List.length_cons, be_length] at hm; omega
      have hk : ((be n 2).take k).length = k := by rw [List.length_take, be_length]; omega
      have h' : Reads W B 1 (some ad) (k + 1) (bs (209 :: (be n 2).take k)) := by simpa only [List.take_succ_cons] using h
      obtain ⟨tot, htot⟩ : ∃ tot, tot = (be n 2).take k := ⟨_, rfl⟩
      rw [← htot] at h' hk
      subst hk
      exact ReadInt64Bytes_s209 W B c ad 0 tot h' hmc hcm hB hlt ts vs hsh
    · have hlt : k < 4 := by simp only [List.length_cons, be_length] at hm; omega
      have hk : ((be n 4).take k).length = k := by rw [List.length_take, be_length]; omega
      have h' : Reads W B 1 (some ad) (k + 1) (bs (210 :: (be n 4).take k)) := by simpa only [List.take_succ_cons] using h
      obtain ⟨tot, htot⟩ : ∃ tot, tot = (be n 4).take k := ⟨_, rfl⟩
      rw [← htot] at h' hk
      subst hk
      exact ReadInt64Bytes_s210 W B c ad 0 tot h' hmc hcm hB hlt ts vs hsh
    · have hlt : k < 8 := by simp only [List.length_cons, be_length] at hm; omega
      have hk : ((be n 8).take k).length = k := by rw [List.length_take, be_length]; omega
      have h' : Reads W B 1 (some ad) (k + 1) (bs (211 :: (be n 8).take k)) := by simpa only [List.take_succ_cons] using h
      obtain ⟨tot, htot⟩ : ∃ tot, tot = (be n 8).take k := ⟨_, rfl⟩
      rw [← htot] at h' hk
      subst hk
      exact ReadInt64Bytes_s211 W B c ad 0 tot h' hmc hcm hB hlt ts vs hsh
/-- Bytes that begin no integer. -/
theorem RI_other (W : World) (B c : Nat) (A : Option Addr) (b : Int) (tot : List Int) (h0 : 128 ≤ b) (h1 : b < 224) (h2 : b < 204 ∨ 211 < b) (h : Reads W B 1 A (b :: tot).length (bs (b :: tot))) (hmc : (b :: tot).length ≤ c) (hcm : c ≤ maxLen) (hB : B ≤ W.heap.size) :
    Calls Tryd.prog 52 #[.slice A (b :: tot).length c] W (RE .i64 W) := by
  obtain ⟨ad, rfl, _, _⟩ := h.2 (by simp)
  exact ReadInt64Bytes_other W B c ad b tot h hmc hcm hB h0 h1 h2
/-- What is written for a value of another kind begins no integer. -/
theorem FP_other {T : PT} {enc : List Int} (hf : FP T enc) (h0 : 0 ≤ T.k) (h10 : T.k ≤ 10) (hu : 0 ≤ T.u) (hb : T.k = 1 → T.u ≤ 1) (h2 : T.k ≠ 2) (h3 : T.k ≠ 3) : ∃ b r, enc = b :: r ∧ 128 ≤ b ∧ b < 224 ∧ (b < 204 ∨ 211 < b) := by
  obtain ⟨⟨a0, a1, a2, a3, a4, a5, a6, a7⟩, hx1, hx2⟩ := hf
  clear hx1 hx2 a2 a3
  generalize T.k = K at *
  generalize T.u = U at *
  by_cases c0 : K = 0
  · exact ⟨_, _, a0 c0, by omega, by omega, by omega⟩
  by_cases c1 : K = 1
  · have := hb c1
    exact ⟨_, _, a1 c1, by omega, by omega, by omega⟩
  by_cases c4 : K = 4
  · exact ⟨_, _, a4 c4, by omega, by omega, by omega⟩
  by_cases c5 : K = 5
  · exact ⟨_, _, a5 c5, by omega, by omega, by omega⟩
  by_cases c6 : K = 6
  · obtain ⟨hd, hh, rfl⟩ := a6 c6
    rcases hh with ⟨_, hlt, rfl⟩ | ⟨p, hp, _, rfl⟩
    · exact ⟨_, _, rfl, by omega, by omega, by omega⟩
    · simp only [List.mem_cons, List.not_mem_nil, or_false] at hp
      rcases hp with rfl | rfl | rfl <;> exact ⟨_, _, rfl, by decide, by decide, by decide⟩
  obtain ⟨b, r, rfl, o7, o8, o9, o10⟩ := a7 (by omega)
  clear a0 a1 a4 a5 a6 a7
  refine ⟨b, r, rfl, ?_⟩
  have : K = 7 ∨ K = 8 ∨ K = 9 ∨ K = 10 := by omega
  rcases this with e | e | e | e
  · have := o7 e; omega
  · have := o8 e; omega
  · have := o9 e; omega
  · have := o10 e; omega
end Go.Proofs.YtlpnaifagiddlaaDoor
