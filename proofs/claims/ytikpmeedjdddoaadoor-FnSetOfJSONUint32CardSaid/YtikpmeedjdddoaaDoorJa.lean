/- Decimal numerals as lists of bytes: what they are read as; texts of lists of JSON. No program in sight. -/
import Derived.Lib.ItoaMem
import Derived.Lib.ParseIntB
namespace Go.Proofs.YtikpmeedjdddoaaDoor
set_option linter.unusedVariables false

/-- A number's decimal digits. -/
def digs (u : Nat) : List Int := (Lib.decDigits u).map fun b => (b.toNat : Int)
theorem digs_small {u : Nat} (h : u < 10) : digs u = [48 + (u : Int)] := by
  rw [digs, Lib.decDigits_one h, List.map_cons, List.map_nil]
  congr 1
  have : (UInt8.ofNat (48 + u)).toNat = 48 + u := by simp [UInt8.toNat_ofNat']; omega
  rw [this]; omega
theorem digs_step {u : Nat} (h : ¬ u < 10) : digs u = digs (u / 10) ++ [48 + ((u % 10 : Nat) : Int)] := by
  rw [digs, Lib.decDigits, dif_neg h, List.map_append, List.map_cons, List.map_nil]
  have : (UInt8.ofNat (48 + u % 10)).toNat = 48 + u % 10 := by simp [UInt8.toNat_ofNat']; omega
  rw [this]
  congr 2
theorem digs_all (u : Nat) : ∀ b ∈ digs u, 48 ≤ b ∧ b ≤ 57 := by
  induction u using Nat.strongRecOn with
  | _ u ih =>
    by_cases h : u < 10
    · rw [digs_small h]; intro b hb; rw [List.mem_singleton] at hb; omega
    · rw [digs_step h]
      intro b hb
      rw [List.mem_append, List.mem_singleton] at hb
      rcases hb with hb | hb
      · exact ih (u / 10) (by omega) b hb
      · omega
theorem digs_pos (u : Nat) : 0 < (digs u).length := by
  by_cases h : u < 10
  · rw [digs_small h]; simp
  · rw [digs_step h]; simp
/-- A numeral of more digits than one does not begin with 0. -/
theorem digs_head (u : Nat) : 1 < (digs u).length → (digs u).getD 0 0 ≠ 48 := by
  have key : ∀ u : Nat, 0 < u → (digs u).getD 0 0 ≠ 48 := by
    intro u
    induction u using Nat.strongRecOn with
    | _ u ih =>
      intro h0
      by_cases h : u < 10
      · rw [digs_small h]; simp; omega
      · rw [digs_step h]
        have hp := digs_pos (u / 10)
        have e := ih (u / 10) (by omega) (by omega)
        rw [List.getD_eq_getElem?_getD] at e ⊢
        rwa [List.getElem?_append_left hp]
  intro h1
  refine key u ?_
  rcases Nat.eq_zero_or_pos u with rfl | h
  · rw [digs_small (by omega)] at h1; simp at h1
  · exact h
/-- What a row of digits is read as. -/
def dv (l : List Int) : Int := l.foldl (fun a b => 10 * a + (b - 48)) 0
theorem dv_nil : dv [] = 0 := rfl
theorem dv_snoc (l : List Int) (b : Int) : dv (l ++ [b]) = 10 * dv l + (b - 48) := by simp [dv]
theorem dv_digs (u : Nat) : dv (digs u) = (u : Int) := by
  induction u using Nat.strongRecOn with
  | _ u ih =>
    by_cases h : u < 10
    · rw [digs_small h]; simp [dv]; omega
    · rw [digs_step h, dv_snoc, ih (u / 10) (by omega)]; omega
theorem dv_le (l : List Int) (h : ∀ b ∈ l, 48 ≤ b ∧ b ≤ 57) : ∀ i, 0 ≤ dv (l.take i) ∧ (i < l.length → dv (l.take (i + 1)) = 10 * dv (l.take i) + (l.getD i 0 - 48)) ∧ dv (l.take i) ≤ dv l := by
  have step : ∀ i, i < l.length → dv (l.take (i + 1)) = 10 * dv (l.take i) + (l.getD i 0 - 48) := fun i hi => by
    rw [List.take_add_one, List.getElem?_eq_getElem hi]
    show dv (l.take i ++ [l[i]]) = _
    rw [dv_snoc]
    simp [List.getD, hi]
  have nn : ∀ i, 0 ≤ dv (l.take i) := fun i => by
    induction i with
    | zero => simp [dv]
    | succ i ih =>
      by_cases hi : i < l.length
      · rw [step i hi]
        have := h (l.getD i 0) (by simp [List.getD, hi])
        omega
      · rw [List.take_of_length_le (by omega)]
        rwa [List.take_of_length_le (by omega)] at ih
  have up : ∀ k i, dv (l.take i) ≤ dv (l.take (i + k)) := fun k => by
    induction k with
    | zero => intro i; exact Int.le_refl _
    | succ k ih =>
      intro i
      refine Int.le_trans (ih i) ?_
      by_cases hi : i + k < l.length
      · rw [← Nat.add_assoc, step (i + k) hi]
        have := h (l.getD (i + k) 0) (by simp [List.getD, hi])
        have := nn (i + k)
        omega
      · rw [List.take_of_length_le (by omega), List.take_of_length_le (by omega)]
        exact Int.le_refl _
  refine fun i => ⟨nn i, step i, ?_⟩
  have := up l.length i
  rwa [List.take_of_length_le (l := l) (by omega : l.length ≤ i + l.length)] at this
/-- A number with its sign. -/
def itoaL (x : Int) : List Int := if x < 0 then 45 :: digs x.natAbs else digs x.toNat
theorem itoaL_lib (x : Int) : (Lib.itoa x).map (fun b => (b.toNat : Int)) = itoaL x := by
  unfold Lib.itoa itoaL
  split
  · rfl
  · rfl
/-- Texts of numbers, with commas between them. -/
def jn : List Int → List Int
  | [] => []
  | [x] => itoaL x
  | x :: y :: r => itoaL x ++ 44 :: jn (y :: r)
theorem jn_snoc (l : List Int) (x : Int) : jn (l ++ [x]) = if l = [] then itoaL x else jn l ++ 44 :: itoaL x := by
  induction l with
  | nil => rfl
  | cons y r ih =>
    cases r with
    | nil => simp [jn]
    | cons z r =>
      rw [if_neg (by simp)]
      rw [if_neg (by simp)] at ih
      show itoaL y ++ 44 :: jn (z :: r ++ [x]) = _
      rw [ih]
      show _ = (itoaL y ++ 44 :: jn (z :: r)) ++ 44 :: itoaL x
      simp
theorem take_neJ {l : List Int} {m : Nat} (h1 : 0 < m) (h2 : m ≤ l.length) : l.take m ≠ [] := by
  intro e
  have := congrArg List.length e
  rw [List.length_take, List.length_nil] at this
  omega
/-- What stands ahead of the k-th number of a list. -/
def ahead (l : List Int) (k : Nat) : List Int := if k = 0 then [91] else 91 :: (jn (l.take k) ++ [44])
theorem jn_cut (l : List Int) (k : Nat) (h : k < l.length) : ∃ post, 91 :: (jn l ++ [93]) = ahead l k ++ (itoaL (l.getD k 0) ++ (if k + 1 = l.length then 93 else 44) :: post) ∧ (k + 1 = l.length → post = []) ∧ (k + 1 < l.length → ahead l (k + 1) = ahead l k ++ (itoaL (l.getD k 0) ++ [44])) := by
  have split1 : ∀ (l : List Int) (k : Nat), k < l.length → jn (l.take (k + 1)) = if k = 0 then itoaL (l.getD k 0) else jn (l.take k) ++ 44 :: itoaL (l.getD k 0) := fun l k h => by
    have e : l.take (k + 1) = l.take k ++ [l.getD k 0] := by
      rw [List.take_add_one, List.getElem?_eq_getElem h, List.getD, List.getElem?_eq_getElem h]; rfl
    rw [e, jn_snoc]
    by_cases h0 : k = 0
    · subst h0; simp
    · rw [if_neg (take_neJ (by omega) (by omega)), if_neg h0]
  have more : ∀ (m : Nat) (l : List Int) (k : Nat), l.length = k + 1 + m → 0 < m → ∃ post, jn l = jn (l.take (k + 1)) ++ 44 :: post := fun m => by
    induction m with
    | zero => intro l k _ h; omega
    | succ m ih =>
      intro l k hl _
      have hl2 : l = l.take (k + 1 + m) ++ [l.getD (k + 1 + m) 0] := by
        rw [show l.getD (k + 1 + m) 0 = l[k + 1 + m]'(by omega) by simp [List.getD, show k + 1 + m < l.length by omega]]
        rw [← List.take_succ_eq_append_getElem (by omega : k + 1 + m < l.length), List.take_of_length_le (by omega)]
      rcases Nat.eq_zero_or_pos m with rfl | hm
      · rw [hl2, jn_snoc, if_neg (take_neJ (by omega) (by omega))]
        refine ⟨itoaL (l.getD (k + 1 + 0) 0), ?_⟩
        simp [show min (k + 1) l.length = k + 1 by omega]
      · obtain ⟨post, hp⟩ := ih (l.take (k + 1 + m)) k (by rw [List.length_take]; omega) hm
        rw [hl2, jn_snoc, if_neg (take_neJ (by omega) (by omega)), hp, ← hl2]
        refine ⟨post ++ 44 :: itoaL (l.getD (k + 1 + m) 0), ?_⟩
        rw [List.take_take, show min (k + 1) (k + 1 + m) = k + 1 by omega]
        simp
  have hs := split1 l k h
  have ah : ahead l k ++ itoaL (l.getD k 0) = 91 :: jn (l.take (k + 1)) := by
    unfold ahead
    rw [hs]
    by_cases h0 : k = 0
    · rw [if_pos h0, if_pos h0]; rfl
    · rw [if_neg h0, if_neg h0]; simp
  by_cases hk : k + 1 = l.length
  · refine ⟨[], ?_, fun _ => rfl, fun h => absurd h (by omega)⟩
    rw [if_pos hk, ← List.append_assoc, ah, List.take_of_length_le (by omega)]
    rfl
  · obtain ⟨post, hp⟩ := more (l.length - (k + 1)) l k (by omega) (by omega)
    refine ⟨post ++ [93], ?_, fun h => absurd h hk, fun _ => ?_⟩
    · rw [if_neg hk, ← List.append_assoc, ah, hp]; simp
    · rw [← List.append_assoc, ah]
      unfold ahead
      rw [if_neg (by omega)]; rfl
end Go.Proofs.YtikpmeedjdddoaaDoor
