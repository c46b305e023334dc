/- Texts of lists with blanks; what a numeral is parsed as. PRINTED by wip/genjl.py. -/
import Derived.Test.YtikpmeedjdddoaaDoorJa
import Derived.Laws.BytesArg
namespace Go.Proofs.YtikpmeedjdddoaaDoor
set_option linter.unusedVariables false

/-- Texts of numbers, with commas between them. -/
def jg (d : Int → List Int) : List Int → List Int
  | [] => []
  | [x] => d x
  | x :: y :: r => d x ++ 44 :: jg d (y :: r)
theorem jg_snoc (d : Int → List Int) (l : List Int) (x : Int) : jg d (l ++ [x]) = if l = [] then d x else jg d l ++ 44 :: d x := by
  induction l with
  | nil => rfl
  | cons y r ih =>
    cases r with
    | nil => simp [jg]
    | cons z r =>
      rw [if_neg (by simp)]
      rw [if_neg (by simp)] at ih
      show d y ++ 44 :: jg d (z :: r ++ [x]) = _
      rw [ih]
      show _ = (d y ++ 44 :: jg d (z :: r)) ++ 44 :: d x
      simp
/-- What stands aheadG d of the k-th number of a list. -/
def aheadG (d : Int → List Int) (l : List Int) (k : Nat) : List Int := if k = 0 then [91] else 91 :: (jg d (l.take k) ++ [44])
theorem jg_cut (d : Int → List Int) (l : List Int) (k : Nat) (h : k < l.length) : ∃ post, 91 :: (jg d l ++ [93]) = aheadG d l k ++ (d (l.getD k 0) ++ (if k + 1 = l.length then 93 else 44) :: post) ∧ (k + 1 = l.length → post = []) ∧ (k + 1 < l.length → aheadG d l (k + 1) = aheadG d l k ++ (d (l.getD k 0) ++ [44])) := by
  have split1 : ∀ (l : List Int) (k : Nat), k < l.length → jg d (l.take (k + 1)) = if k = 0 then d (l.getD k 0) else jg d (l.take k) ++ 44 :: d (l.getD k 0) := fun l k h => by
    have e : l.take (k + 1) = l.take k ++ [l.getD k 0] := by
      rw [List.take_add_one, List.getElem?_eq_getElem h, List.getD, List.getElem?_eq_getElem h]; rfl
    rw [e, jg_snoc d]
    by_cases h0 : k = 0
    · subst h0; simp
    · rw [if_neg (take_neJ (by omega) (by omega)), if_neg h0]
  have more : ∀ (m : Nat) (l : List Int) (k : Nat), l.length = k + 1 + m → 0 < m → ∃ post, jg d l = jg d (l.take (k + 1)) ++ 44 :: post := fun m => by
    induction m with
    | zero => intro l k _ h; omega
    | succ m ih =>
      intro l k hl _
      have hl2 : l = l.take (k + 1 + m) ++ [l.getD (k + 1 + m) 0] := by
        rw [show l.getD (k + 1 + m) 0 = l[k + 1 + m]'(by omega) by simp [List.getD, show k + 1 + m < l.length by omega]]
        rw [← List.take_succ_eq_append_getElem (by omega : k + 1 + m < l.length), List.take_of_length_le (by omega)]
      rcases Nat.eq_zero_or_pos m with rfl | hm
      · rw [hl2, jg_snoc, if_neg (take_neJ (by omega) (by omega))]
        refine ⟨d (l.getD (k + 1 + 0) 0), ?_⟩
        simp [show min (k + 1) l.length = k + 1 by omega]
      · obtain ⟨post, hp⟩ := ih (l.take (k + 1 + m)) k (by rw [List.length_take]; omega) hm
        rw [hl2, jg_snoc, if_neg (take_neJ (by omega) (by omega)), hp, ← hl2]
        refine ⟨post ++ 44 :: d (l.getD (k + 1 + m) 0), ?_⟩
        rw [List.take_take, show min (k + 1) (k + 1 + m) = k + 1 by omega]
        simp
  have hs := split1 l k h
  have ah : aheadG d l k ++ d (l.getD k 0) = 91 :: jg d (l.take (k + 1)) := by
    unfold aheadG
    rw [hs]
    by_cases h0 : k = 0
    · rw [if_pos h0, if_pos h0]; rfl
    · rw [if_neg h0, if_neg h0]; simp
  by_cases hk : k + 1 = l.length
  · refine ⟨[], ?_, fun _ => rfl, fun h => absurd h (by omega)⟩
    rw [if_pos hk, ← List.append_assoc, ah, List.take_of_length_le (by omega)]
    rfl
  · obtain ⟨post, hp⟩ := more (l.length - (k + 1)) l k (by omega) (by omega)
    refine ⟨post ++ [93], ?_, fun h => absurd h hk, fun _ => ?_⟩
    · rw [if_neg hk, ← List.append_assoc, ah, hp]; simp
    · rw [← List.append_assoc, ah]
      unfold aheadG
      rw [if_neg (by omega)]; rfl

theorem parseM_cons (M acc : Nat) (c : UInt8) (r : List UInt8) (h1 : 48 ≤ c.toNat ∧ c.toNat ≤ 57) (h2 : acc < 1844674407370955162) (h3 : acc * 10 + (c.toNat - 48) ≤ M) : Lib.parseUintM M acc (c :: r) = Lib.parseUintM M (acc * 10 + (c.toNat - 48)) r := by
  rw [Lib.parseUintM, if_pos h1, if_neg (by omega), if_neg (by omega)]
theorem parseM_append (M : Nat) : ∀ (l r : List UInt8) (acc a : Nat), Lib.parseUintM M acc l = .ok a → Lib.parseUintM M acc (l ++ r) = Lib.parseUintM M a r
  | [], r, acc, a, h => by
    have h' : Lib.NumEnd.ok acc = Lib.NumEnd.ok a := h
    injection h' with e
    rw [e]; rfl
  | c :: l, r, acc, a, h => by
    rw [List.cons_append]
    rw [Lib.parseUintM] at h ⊢
    split at h
    · rename_i h1
      rw [if_pos h1]
      split at h
      · cases h
      · rename_i h2
        rw [if_neg h2]
        split at h
        · cases h
        · rename_i h3
          rw [if_neg h3]
          exact parseM_append M l r _ _ h
    · cases h
theorem parseM_digits (M : Nat) (hM : M ≤ 4294967295) : ∀ u : Nat, u ≤ M → Lib.parseUintM M 0 (Lib.decDigits u) = .ok u := by
  intro u
  induction u using Nat.strongRecOn with
  | _ u ih =>
    intro hu
    by_cases h : u < 10
    · rw [Lib.decDigits_one h]
      have e : (UInt8.ofNat (48 + u)).toNat = 48 + u := by simp [UInt8.toNat_ofNat']; omega
      rw [parseM_cons M 0 _ [] (by rw [e]; omega) (by omega) (by rw [e]; omega), e]
      show Lib.NumEnd.ok _ = _
      congr 1
      omega
    · have e : (UInt8.ofNat (48 + u % 10)).toNat = 48 + u % 10 := by simp [UInt8.toNat_ofNat']; omega
      rw [Lib.decDigits, dif_neg h, parseM_append M _ _ _ _ (ih (u / 10) (by omega) (by omega)), parseM_cons M (u / 10) _ [] (by rw [e]; omega) (by omega) (by rw [e]; omega), e]
      show Lib.NumEnd.ok _ = _
      congr 1
      omega
theorem dec_ne (u : Nat) : Lib.decDigits u ≠ [] := by
  intro e
  have := digs_pos u
  unfold digs at this
  rw [e] at this
  simp at this
theorem parseU32 (u : Nat) (h : u ≤ 4294967295) : Lib.parseUintB 32 (Lib.decDigits u) = .ok u := by
  unfold Lib.parseUintB
  rw [if_neg (dec_ne u)]
  exact parseM_digits _ (by decide) u h
theorem parseI8 (x : Int) (h0 : -128 ≤ x) (h1 : x ≤ 127) : Lib.parseIntB 8 (Lib.itoa x) = .ok x := by
  by_cases hx : x < 0
  · have e : Lib.itoa x = 45 :: Lib.decDigits x.natAbs := if_pos hx
    rw [e]
    unfold Lib.parseIntB
    have c1 : (45 : UInt8).toNat = 45 := rfl
    simp only [c1, or_true, if_true]
    unfold Lib.parseUintB
    rw [if_neg (dec_ne _), parseM_digits _ (by decide) _ (by show x.natAbs ≤ 255; omega)]
    simp only [not_true_eq_false, false_and, if_false, true_and]
    rw [if_neg (by show ¬ 128 < x.natAbs; omega)]
    congr 1
    omega
  · have e : Lib.itoa x = Lib.decDigits x.toNat := if_neg hx
    rw [e]
    rcases hd : Lib.decDigits x.toNat with _ | ⟨c, r⟩
    · exact absurd hd (dec_ne _)
    · have hc := digs_all x.toNat (c.toNat : Int) (by unfold digs; rw [hd]; simp)
      have n1 : ¬ (c.toNat = 43 ∨ c.toNat = 45) := by omega
      have n2 : ¬ c.toNat = 45 := by omega
      have n3 : ¬ c.toNat = 43 := by omega
      unfold Lib.parseIntB
      simp only [n3, n2, or_self, if_false]
      rw [← hd]
      unfold Lib.parseUintB
      rw [if_neg (dec_ne _), parseM_digits _ (by decide) _ (by show x.toNat ≤ 255; omega)]
      simp only [not_false_eq_true, true_and, false_and, if_false]
      rw [if_neg (by show ¬ 128 ≤ x.toNat; omega)]
      congr 1
      omega
theorem strNums_itoa (x : Int) : (strOfNums (itoaL x)).data.toList = Lib.itoa x := by
  rw [← itoaL_lib]
  simp [strOfNums, List.map_map, Function.comp_def]
theorem strNums_append (a b : List Int) : strOfNums a ++ strOfNums b = strOfNums (a ++ b) := by
  apply ByteArray.ext
  simp [strOfNums, ByteArray.data_append]
theorem strNums_size (a : List Int) : (strOfNums a).size = a.length := by simp [strOfNums, ByteArray.size]
theorem getD_midL (P ds R : List Int) (i : Nat) (h : i < ds.length) : (P ++ (ds ++ R)).getD (P.length + i) 0 = ds.getD i 0 := by
  rw [List.getD_eq_getElem?_getD, List.getD_eq_getElem?_getD, List.getElem?_append_right (by omega), Nat.add_sub_cancel_left, List.getElem?_append_left h]
theorem getD_endL (P ds R : List Int) (c : Int) : (P ++ (ds ++ c :: R)).getD (P.length + ds.length) 0 = c := by
  rw [List.getD_eq_getElem?_getD, List.getElem?_append_right (by omega), Nat.add_sub_cancel_left, List.getElem?_append_right (by omega), Nat.sub_self]
  rfl
theorem itoaL_chars (x : Int) : 0 < (itoaL x).length ∧ ∀ b ∈ itoaL x, b = 45 ∨ (48 ≤ b ∧ b ≤ 57) := by
  unfold itoaL
  split
  · refine ⟨by simp, fun b hb => ?_⟩
    rw [List.mem_cons] at hb
    rcases hb with rfl | hb
    · exact .inl rfl
    · exact .inr (digs_all _ b hb)
  · exact ⟨digs_pos _, fun b hb => .inr (digs_all _ b hb)⟩
/-- A number behind a blank, or without one. -/
def bl (b : Bool) : List Int := if b then [32] else []
def itB (b : Bool) (x : Int) : List Int := bl b ++ itoaL x
end Go.Proofs.YtikpmeedjdddoaaDoor
