/- Contracts of the reference's small readers: takeBig, takeText, takeExt. -/
import Derived.Test.YtfhaddnacdjpoaaKd
import Derived.Deep.QuietTactic
import Derived.BigQuiet
namespace Go.Proofs.Ytfhaddnacdjpoaa
open Go.RowKit
set_option linter.unusedVariables false

/-- The number that bytes tell, the highest first. -/
def valBE (l : List Int) : Int := l.foldl (fun u b => u * 256 + b) 0
theorem valBE_snoc (l : List Int) (b : Int) : valBE (l ++ [b]) = valBE l * 256 + b := by simp [valBE]
def IsB (l : List Int) : Prop := ∀ x ∈ l, 0 ≤ x ∧ x ≤ 255
theorem valBE_range (l : List Int) (h : IsB l) : 0 ≤ valBE l ∧ valBE l < 256 ^ l.length := by
  suffices H : ∀ (m : List Int), IsB m.reverse → 0 ≤ valBE m.reverse ∧ valBE m.reverse < 256 ^ m.length by
    have := H l.reverse (by simpa using h)
    simpa using this
  intro m
  induction m with
  | nil => intro _; simp [valBE]
  | cons x xs ih =>
    intro hm
    have h1 := ih (fun y hy => hm y (by simp at hy ⊢; exact .inl hy))
    have h2 := hm x (by simp)
    rw [List.reverse_cons, valBE_snoc, List.length_cons, Int.pow_succ]
    omega

theorem take_snoc_getD (l : List Int) (j : Nat) (h : j < l.length) : l.take (j + 1) = l.take j ++ [l.getD j 0] := by
  rw [List.take_succ_eq_append_getElem h, List.getD_eq_getElem?_getD, List.getElem?_eq_getElem h]; rfl
theorem getD_mem (l : List Int) (j : Nat) (h : j < l.length) : l.getD j 0 ∈ l := by
  rw [List.getD_eq_getElem?_getD, List.getElem?_eq_getElem h]; exact List.getElem_mem h
theorem pow_le7 (n : Nat) (h : n ≤ 7) : (256 : Int) ^ n ≤ 72057594037927936 := by
  have : ∀ n : Fin 8, (256 : Int) ^ n.val ≤ 72057594037927936 := by decide
  exact this ⟨n, by omega⟩

/-- What 'takeBig' leaves: the number, and what stands behind it. -/
def Took (w : World) (B : Nat) (l : List Int) (c k : Nat) (e : Ending) (w' : World) : Prop :=
  ∃ A' c' n, e = .returned (.tuple #[.int .u64 (valBE (l.take k)), .slice A' (l.drop k).length c', .bool true]) ∧ (l.drop k).length ≤ c' ∧ c' ≤ c ∧ Reads w B 1 A' (l.drop k).length (bs (l.drop k)) ∧ w' = w.drewN n
theorem reads_cut {w : World} {B : Nat} {A A' : Option Addr} {l : List Int} {c k : Nat} (h : Reads w B 1 A l.length (bs l)) (hk : k ≤ l.length) (hc : l.length ≤ c) (hA : A' = if c = k then A else A.map (·.add k)) :
    Reads w B 1 A' (l.drop k).length (bs (l.drop k)) := by
  have hr := h.cut (k := k) (cap := c) hk hc
  simp only [Nat.mul_one, bs_drop] at hr
  rw [hA, List.length_drop]
  exact hr

set_option maxHeartbeats 1000000 in
theorem takeBig_yes (w : World) (B k c : Nat) (A : Option Addr) (l : List Int) (h : Reads w B 1 A l.length (bs l)) (hl : IsB l) (hk : k ≤ 8) (hkl : k ≤ l.length) (hc : l.length ≤ c) (hm : c ≤ maxLen) :
    Calls Try.prog 37 #[.slice A l.length c, .int .i64 k] w (Took w B l c k) := by
  have H := Lib.hid h
  have HL := Lib.hid hl
  have hm' : c ≤ 9223372036854775807 := by unfold maxLen at hm; omega
  have hd : decide (l.length < k) = false := by simp; omega
  clear h hl hm
  go_enter Try.func37, Try.ntmps37
  go_wp2
  go_loop [7, 18] (fun u i => ∃ j : Nat, j ≤ k ∧ i = .int .i64 j ∧ u = .int .u64 (valBE (l.take j))) (fun _ i => k - (intOf i).toNat)
  case atStart => exact ⟨0, Nat.zero_le _, rfl, rfl⟩
  case round =>
    obtain ⟨j, hj, rfl, rfl⟩ := hrel
    by_cases hlt : j < k
    · obtain ⟨ad, hA, _, hcell⟩ := H.out.byte (k := j) (by omega)
      subst hA
      have hts : l.take (j + 1) = l.take j ++ [l.getD j 0] := take_snoc_getD l j (by omega)
      have hr := valBE_range (l.take j) (fun x hx => HL.out x (List.mem_of_mem_take hx))
      have hb := HL.out (l.getD j 0) (getD_mem l j (by omega))
      have hp : (256 : Int) ^ (l.take j).length ≤ 72057594037927936 := pow_le7 _ (by rw [List.length_take]; omega)
      have hu : valBE (l.take j) < 72057594037927936 := by omega
      have hsn : valBE (l.take (j + 1)) = valBE (l.take j) * 256 + l.getD j 0 := by rw [hts, valBE_snoc]
      obtain ⟨hr0, _⟩ := hr
      obtain ⟨hb0, hb1⟩ := hb
      have HSN := Lib.hid hsn
      clear hts hsn hp
      generalize valBE (l.take j) = u at *
      generalize l.getD j 0 = b at *
      have hor := or_join8 u b hr0 hu hb0 hb1
      go_wp2
      go_round
      case rel => exact ⟨j + 1, by omega, by go_num, by rw [HSN.out]⟩
      case measure => simp [intOf]; omega
    · obtain rfl : j = k := by omega
      by_cases hcj : c = j
      · subst hcj
        go_wp2
        go_quiet (fail)
        go_wp2
        go_ret3
        exact ⟨_, _, _, by rw [show (l.drop c).length = 0 by rw [List.length_drop]; omega]; rfl, by rw [List.length_drop]; omega, by omega, reads_cut H.out hkl hc (by rw [if_pos rfl]), rfl⟩
      · go_wp2
        go_quiet (fail)
        go_wp2
        go_ret3
        exact ⟨_, _, _, by rw [List.length_drop]; rfl, by rw [List.length_drop]; omega, by omega, reads_cut H.out hkl hc (by rw [if_neg hcj]), rfl⟩

theorem takeBig_int (w : World) (B k c : Nat) (z : Int) (hz : z = (k : Int)) (A : Option Addr) (l : List Int) (h : Reads w B 1 A l.length (bs l)) (hl : IsB l) (hk : k ≤ 8) (hkl : k ≤ l.length) (hc : l.length ≤ c) (hm : c ≤ maxLen) :
    Calls Try.prog 37 #[.slice A l.length c, .int .i64 z] w (Took w B l c k) := by
  subst hz
  exact takeBig_yes w B k c A l h hl hk hkl hc hm
theorem takeBig_no (w : World) (k c : Nat) (A : Option Addr) (l : List Int) (hkl : l.length < k) (hk : k ≤ 8) (hc : l.length ≤ c) :
    Calls Try.prog 37 #[.slice A l.length c, .int .i64 k] w fun e w' => e = .returned (.tuple #[.int .u64 0, .slice none 0 0, .bool false]) ∧ w = w' := by
  have hd : decide (l.length < k) = true := by simp; omega
  go_enter Try.func37, Try.ntmps37
  go_wp2
  go_ret3
  exact ⟨rfl, rfl⟩
end Go.Proofs.Ytfhaddnacdjpoaa
