/- AMQP: what readUint makes of what PutValue writes: the plain side. By hand. -/
import Derived.Test.YtjjhckbidcdkcaaDoorIs
import Derived.Test.YtjjhckbidcdkcaaDoorIo
namespace Go.Proofs.YtjjhckbidcdkcaaDoor
open Go.RowKit
set_option linter.unusedVariables false

theorem emodI (u P : Int) (hp : 0 < P) : u % (P * 256) = (u / P % 256) * P + u % P := by
  have h1 := Int.emod_add_mul_ediv u (P * 256)
  have h2 := Int.emod_add_mul_ediv u P
  have h3 := Int.emod_add_mul_ediv (u / P) 256
  have h4 : u / (P * 256) = u / P / 256 := (Int.ediv_ediv_of_nonneg (by omega)).symm
  rw [h4] at h1
  have h5 : P * 256 * (u / P / 256) = P * (256 * (u / P / 256)) := by rw [Int.mul_assoc]
  rw [h5] at h1
  have h6 : P * (u / P) = P * (u / P % 256) + P * (256 * (u / P / 256)) := by rw [← Int.mul_add, h3]
  rw [Int.mul_comm (u / P % 256) P]
  omega
theorem valB_foldl (u : Int) (k : Nat) : ∀ a : Int, (be u k).foldl (fun u b => u * 256 + b) a = a * 256 ^ k + u % 256 ^ k := by
  induction k with
  | zero => intro a; simp [be]
  | succ k ih =>
    intro a
    rw [be, List.foldl_cons, ih]
    have hb : byt u k = u / 256 ^ k % 256 := by unfold byt; rfl
    rw [hb, Int.pow_succ, emodI u (256 ^ k) (Int.pow_pos (by decide)), Int.add_mul, Int.mul_assoc a, Int.mul_comm 256 (256 ^ k)]
    omega
theorem valB_be (u : Int) (k : Nat) : valB (be u k) = u % 256 ^ k := by
  unfold valB
  rw [valB_foldl]
  simp
theorem take_be (u : Int) (n : Nat) (bl : List Int) : (be u n ++ bl).take n = be u n := by
  rw [List.take_append_of_le_length (by rw [be_length]; omega), List.take_of_length_le (by rw [be_length]; omega)]
theorem numB_be (u : Int) (n : Nat) (bl : List Int) (h0 : 0 ≤ u) (h1 : u < 256 ^ n) : numB n (be u n ++ bl) = some (u, n + 1) := by
  unfold numB
  rw [if_pos (by rw [List.length_append, be_length]; omega), take_be, valB_be, Int.emod_eq_of_lt h0 h1]
theorem numB_cut (u : Int) (n m : Nat) (h : m < n) : numB n ((be u n).take m) = none := by
  unfold numB
  rw [if_neg (by rw [List.length_take, be_length]; omega)]
/-- What is known of a value's bytes, whose codes are of its kind alone. -/
theorem fpv_pce {T : VT} {enc : List Int} (h : FPV T enc) (hd : T.n true = 0) : ∃ L c d, PcsG T L ∧ (c, d) ∈ L ∧ enc = c :: d := h.2.2.2 hd
theorem fitsV_cft {T : VT} (h : FitsV T) : CFt T := by
  cases T with
  | nil => exact h.elim
  | mk k u s o n f => exact h.1.2
theorem numL_mem4 {u c : Int} {d : List Int} (h : (c, d) ∈ numL 4 u) : (u = 0 ∧ c = 67 ∧ d = []) ∨ (u < 256 ∧ c = 82 ∧ d = be u 1) ∨ (c = 112 ∧ d = be u 4) := by
  have h : (c, d) ∈ (if u = 0 then [((67 : Int), ([] : List Int))] else []) ++ (if u < 256 then [(82, be u 1)] else []) ++ [(112, be u 4)] := h
  rw [List.mem_append, List.mem_append] at h
  rcases h with (h | h) | h
  · split at h
    · rename_i hu
      rw [List.mem_singleton] at h
      injection h with h1 h2
      exact .inl ⟨hu, h1, h2⟩
    · cases h
  · split at h
    · rename_i hu
      rw [List.mem_singleton] at h
      injection h with h1 h2
      exact .inr (.inl ⟨hu, h1, h2⟩)
    · cases h
  · rw [List.mem_singleton] at h
    injection h with h1 h2
    exact .inr (.inr ⟨h1, h2⟩)
theorem numL_mem5 {u c : Int} {d : List Int} (h : (c, d) ∈ numL 5 u) : (u = 0 ∧ c = 68 ∧ d = []) ∨ (u < 256 ∧ c = 83 ∧ d = be u 1) ∨ (c = 128 ∧ d = be u 8) := by
  have h : (c, d) ∈ (if u = 0 then [((68 : Int), ([] : List Int))] else []) ++ (if u < 256 then [(83, be u 1)] else []) ++ [(128, be u 8)] := h
  rw [List.mem_append, List.mem_append] at h
  rcases h with (h | h) | h
  · split at h
    · rename_i hu
      rw [List.mem_singleton] at h
      injection h with h1 h2
      exact .inl ⟨hu, h1, h2⟩
    · cases h
  · split at h
    · rename_i hu
      rw [List.mem_singleton] at h
      injection h with h1 h2
      exact .inr (.inl ⟨hu, h1, h2⟩)
    · cases h
  · rw [List.mem_singleton] at h
    injection h with h1 h2
    exact .inr (.inr ⟨h1, h2⟩)
theorem numL_memP {k u c : Int} {d : List Int} (h : (c, d) ∈ numL k u) (h4 : k ≠ 4) (h5 : k ≠ 5) (h8 : k ≠ 8) (h9 : k ≠ 9) : c = cod k ∧ d = be u (fsz k).toNat := by
  rw [numL_plain u h4 h5 h8 h9, List.mem_singleton] at h
  injection h with h1 h2
  exact ⟨h1, h2⟩
/-- The forms of an integer without a sign. -/
theorem unsigned_forms {T : VT} {L : List Pce} {c : Int} {d : List Int} (hF : FitsV T) (hG : PcsG T L) (hm : (c, d) ∈ L) (hk : 2 ≤ T.k ∧ T.k ≤ 5) (hu0 : 0 ≤ T.u) (hu1 : T.u ≤ 18446744073709551615) :
    ((c = 67 ∨ c = 68) ∧ T.u = 0 ∧ d = []) ∨ ((c = 80 ∨ c = 82 ∨ c = 83) ∧ T.u < 256 ∧ d = be T.u 1) ∨ (c = 96 ∧ T.u < 65536 ∧ d = be T.u 2) ∨ (c = 112 ∧ T.u < 4294967296 ∧ d = be T.u 4) ∨ (c = 128 ∧ T.u < 18446744073709551616 ∧ d = be T.u 8) := by
  obtain ⟨_, _, _, hX, _⟩ := hG
  obtain ⟨_, f2, f3, f4, _⟩ := fitsV_cft hF
  have hL := hX.1 hk.1 (by omega) (by omega)
  rw [hL] at hm
  rcases (show T.k = 2 ∨ T.k = 3 ∨ T.k = 4 ∨ T.k = 5 by omega) with h | h | h | h
  · rw [h] at hm
    obtain ⟨h1, h2⟩ := numL_memP hm (by decide) (by decide) (by decide) (by decide)
    exact .inr (.inl ⟨.inl h1, f2 h, h2⟩)
  · rw [h] at hm
    obtain ⟨h1, h2⟩ := numL_memP hm (by decide) (by decide) (by decide) (by decide)
    exact .inr (.inr (.inl ⟨h1, f3 h, h2⟩))
  · rw [h] at hm
    rcases numL_mem4 hm with ⟨a, b, e⟩ | ⟨a, b, e⟩ | ⟨b, e⟩
    · exact .inl ⟨.inl b, a, e⟩
    · exact .inr (.inl ⟨.inr (.inl b), a, e⟩)
    · exact .inr (.inr (.inr (.inl ⟨b, f4 h, e⟩)))
  · rw [h] at hm
    rcases numL_mem5 hm with ⟨a, b, e⟩ | ⟨a, b, e⟩ | ⟨b, e⟩
    · exact .inl ⟨.inr b, a, e⟩
    · exact .inr (.inl ⟨.inr (.inr b), a, e⟩)
    · exact .inr (.inr (.inr (.inr ⟨b, by omega, e⟩)))
theorem codes_other {k c : Int} (h0 : 0 ≤ k) (h1 : k < 24) (hk : ¬ (2 ≤ k ∧ k ≤ 9)) (hc : c ∈ codesK k) : c ≠ 67 ∧ c ≠ 68 ∧ c ≠ 80 ∧ c ≠ 82 ∧ c ≠ 83 ∧ c ≠ 96 ∧ c ≠ 112 ∧ c ≠ 128 := by
  have key : ∀ l : List Int, c ∈ l → (l.all fun x => decide (x ≠ 67 ∧ x ≠ 68 ∧ x ≠ 80 ∧ x ≠ 82 ∧ x ≠ 83 ∧ x ≠ 96 ∧ x ≠ 112 ∧ x ≠ 128)) = true → c ≠ 67 ∧ c ≠ 68 ∧ c ≠ 80 ∧ c ≠ 82 ∧ c ≠ 83 ∧ c ≠ 96 ∧ c ≠ 112 ∧ c ≠ 128 := fun l hl ha => of_decide_eq_true (List.all_eq_true.1 ha c hl)
  rcases (show k = 0 ∨ k = 1 ∨ k = 10 ∨ k = 11 ∨ k = 12 ∨ k = 13 ∨ k = 14 ∨ k = 15 ∨ k = 16 ∨ k = 17 ∨ k = 18 ∨ k = 19 ∨ k = 20 ∨ k = 21 ∨ k = 22 ∨ k = 23 by omega) with rfl | rfl | rfl | rfl | rfl | rfl | rfl | rfl | rfl | rfl | rfl | rfl | rfl | rfl | rfl | rfl <;> exact key _ hc (by decide)
theorem creadUint_none {c : Int} (r : List Int) (h : c ≠ 67 ∧ c ≠ 68 ∧ c ≠ 80 ∧ c ≠ 82 ∧ c ≠ 83 ∧ c ≠ 96 ∧ c ≠ 112 ∧ c ≠ 128) : creadUint c r = none := by
  obtain ⟨h1, h2, h3, h4, h5, h6, h7, h8⟩ := h
  unfold creadUint
  rw [if_neg h1, if_neg h2, if_neg h3, if_neg h4, if_neg h5, if_neg h6, if_neg h7, if_neg h8]
theorem pU_whole {T : VT} {enc : List Int} (bl : List Int) (hF : FitsV T) (hd : T.n true = 0) (hf : FPV T enc) (hu0 : 0 ≤ T.u) (hu1 : T.u ≤ 18446744073709551615) (hk : 2 ≤ T.k ∧ T.k ≤ 5) : preadUint (enc ++ bl) = some (T.u, enc.length) := by
  obtain ⟨L, c, d, hG, hm, rfl⟩ := fpv_pce hf hd
  show creadUint c (d ++ bl) = _
  rcases unsigned_forms hF hG hm hk hu0 hu1 with ⟨h, hu, rfl⟩ | ⟨h, hu, rfl⟩ | ⟨h, hu, rfl⟩ | ⟨h, hu, rfl⟩ | ⟨h, hu, rfl⟩
  · rw [hu]
    rcases h with rfl | rfl <;> rfl
  · rw [List.length_cons, be_length, ← numB_be T.u 1 bl hu0 hu]
    rcases h with rfl | rfl | rfl <;> rfl
  · rw [List.length_cons, be_length, ← numB_be T.u 2 bl hu0 hu]
    subst h
    rfl
  · rw [List.length_cons, be_length, ← numB_be T.u 4 bl hu0 hu]
    subst h
    rfl
  · rw [List.length_cons, be_length, ← numB_be T.u 8 bl hu0 hu]
    subst h
    rfl
theorem pU_other {T : VT} {enc : List Int} (bl : List Int) (hF : FitsV T) (hd : T.n true = 0) (hf : FPV T enc) (hk : ¬ (2 ≤ T.k ∧ T.k ≤ 9)) : preadUint (enc ++ bl) = none := by
  obtain ⟨L, c, d, hG, hm, rfl⟩ := fpv_pce hf hd
  obtain ⟨h0, h1, _⟩ := fitsV_fld hF
  exact creadUint_none _ (codes_other h0 h1 hk (hG.2.2.1 _ hm).1)
theorem pU_cut {T : VT} {enc : List Int} (m : Nat) (hF : FitsV T) (hd : T.n true = 0) (hf : FPV T enc) (hu0 : 0 ≤ T.u) (hu1 : T.u ≤ 18446744073709551615) (hk : ¬ (6 ≤ T.k ∧ T.k ≤ 9)) (hm : m < enc.length) : preadUint (enc.take m) = none := by
  obtain ⟨L, c, d, hG, hmem, rfl⟩ := fpv_pce hf hd
  obtain ⟨h0, h1, _⟩ := fitsV_fld hF
  cases m with
  | zero => rfl
  | succ m =>
    rw [List.take_succ_cons]
    show creadUint c (d.take m) = none
    rw [List.length_cons] at hm
    by_cases hk2 : 2 ≤ T.k ∧ T.k ≤ 5
    · rcases unsigned_forms hF hG hmem hk2 hu0 hu1 with ⟨h, hu, rfl⟩ | ⟨h, hu, rfl⟩ | ⟨h, hu, rfl⟩ | ⟨h, hu, rfl⟩ | ⟨h, hu, rfl⟩
      · simp at hm
      · rw [be_length] at hm
        rw [← numB_cut T.u 1 m (by omega)]
        rcases h with rfl | rfl | rfl <;> rfl
      · rw [be_length] at hm
        rw [← numB_cut T.u 2 m (by omega)]
        subst h
        rfl
      · rw [be_length] at hm
        rw [← numB_cut T.u 4 m (by omega)]
        subst h
        rfl
      · rw [be_length] at hm
        rw [← numB_cut T.u 8 m (by omega)]
        subst h
        rfl
    · exact creadUint_none _ (codes_other h0 h1 (by omega) (hG.2.2.1 _ hmem).1)
end Go.Proofs.YtjjhckbidcdkcaaDoor
