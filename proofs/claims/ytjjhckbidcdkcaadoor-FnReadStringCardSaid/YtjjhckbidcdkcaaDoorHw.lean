/- What spec.pieces and spec.PutValue make of a value: the plain side. PRINTED by wip/genhw.py. -/
import Derived.Test.YtjjhckbidcdkcaaDoorHu
import Derived.Test.YtjjhckbidcdkcaaDoorHpd
namespace Go.Proofs.YtjjhckbidcdkcaaDoor
open Go.RowKit
set_option linter.unusedVariables false

/-- The forms of a number. -/
def numL (k u : Int) : List Pce :=
  let full : Pce := (cod k, be u (fsz k).toNat)
  if k = 4 ∨ k = 5 then (if u = 0 then [(if k = 4 then 67 else 68, [])] else []) ++ (if u < 256 then [(if k = 4 then 82 else 83, be u 1)] else []) ++ [full]
  else if k = 8 ∨ k = 9 then (if IntKind.i64.wrap u ≥ -128 ∧ IntKind.i64.wrap u < 128 then [(if k = 8 then 84 else 85, be u 1)] else []) ++ [full]
  else [full]
/-- The bytes of a text. -/
def txtL (s : ByteArray) : List Int := s.data.toList.map fun b => (b.toNat : Int)
/-- The codes of a kind. -/
def codesL : List (List Int) := [[64], [65, 66, 86], [80], [96], [67, 82, 112], [68, 83, 128], [81], [97], [84, 113], [85, 129], [114], [130], [116], [132], [148], [115], [131], [152], [160, 176], [161, 177], [163, 179], [69, 192, 208], [193, 209], [224, 240]]
def codesK (k : Int) : List Int := codesL.getD k.toNat []
/-- The short code of elements of a kind; 0: there is none. -/
def shoL : List (Int × Int) := [(20, 163), (19, 161), (18, 160), (9, 85), (8, 84), (5, 83), (4, 82)]
def sho (k : Int) : Int := look shoL k
/-- What is known exactly of the pieces of numbers and texts. -/
def PcsX (T : VT) (L : List Pce) : Prop :=
  (2 ≤ T.k → T.k ≤ 16 → T.k ≠ 14 → L = numL T.k T.u) ∧ (T.k = 18 → L = lenP 160 176 (txtL T.s) (-1)) ∧ (T.k = 19 → L = lenP 161 177 (txtL T.s) (-1)) ∧ (T.k = 20 → L = lenP 163 179 (txtL T.s) (-1))
/-- The first n of a row of texts, one behind the other. -/
def catV (es : Nat → List Int) : Nat → List Int
  | 0 => []
  | n + 1 => catV es n ++ es n
/-- The kind of an array's elements. -/
def ofK (T : VT) : Int := if 0 < T.n false then (T.kid false 0).k else T.o
/-- The elements of an array under one code. -/
def ElemG (K : Nat → VT) (n : Nat) (code : Int) (d : List Int) : Prop := ∃ ds : Nat → List Int, d = catV ds n ∧ ∀ i, i < n → ∃ Li, PcsX (K i) Li ∧ (code, ds i) ∈ Li
/-- What stands in an array. -/
def ArrG (T : VT) (L : List Pce) : Prop := ∃ data, L = lenP 224 240 data (T.n false : Int) ∧
  ((0 < T.n false ∧ 0 < (T.kid false 0).n true ∧ ∃ r, data = 0 :: r) ∨
   (¬ (0 < T.n false ∧ 0 < (T.kid false 0).n true) ∧ ∃ code d, data = code :: d ∧ code ≠ 0 ∧ (code = sho (ofK T) ∨ code = cod (ofK T)) ∧ ElemG (T.kid false) (T.n false) code d))
/-- How many values there are in a value, its own descriptor aside. -/
def cntK (T : VT) : Nat := 1 + sumV (fun i => (T.kid false i).cnt) (T.n false)
/-- The pieces of a value. -/
def PcsG (T : VT) (L : List Pce) : Prop := (∃ p ∈ L, p.1 = cod T.k) ∧ L.length ≤ 3 ∧ (∀ p ∈ L, p.1 ∈ codesK T.k ∧ IsB p.2 ∧ p.2.length + 10 ≤ 140000 * cntK T) ∧ PcsX T L ∧ (T.k = 23 → ArrG T L)
/-- What PutValue writes. -/
def FPV (T : VT) (enc : List Int) : Prop := IsB enc ∧ enc ≠ [] ∧ enc.length ≤ 140000 * T.cnt ∧ (T.n true = 0 → ∃ L c d, PcsG T L ∧ (c, d) ∈ L ∧ enc = c :: d)
/-- What a call of pieces tells. -/
def PCPost (gf : Nat) (sh : Bool) (T : VT) (W : World) (e : Ending) (W' : World) : Prop := ∃ v L st', e = .returned v ∧ PcsG T L ∧ PcsW W' W.heap.size L v ∧ Blk W' gf 77 [.int .u64 st', .bool sh] ∧ W.grownBy W' (some gf)
/-- What a call of PutValue tells. -/
def PVPost (gf : Nat) (sh : Bool) (T : VT) (W : World) (e : Ending) (W' : World) : Prop := ∃ enc A' c' st', e = .returned (.slice A' enc.length c') ∧ FPV T enc ∧ W'.ownsRow W.heap.size 5 1 (.slice A' enc.length c') enc.length (bs enc) ∧ Blk W' gf 77 [.int .u64 st', .bool sh] ∧ W.grownBy W' (some gf)
/-- The contract of pieces. -/
def PC (B gf : Nat) (sh : Bool) (T : VT) : Prop := ∀ (W : World) (st : Int) (A : Bool → Option Addr) (c : Bool → Nat), TV W B T A c → B ≤ W.heap.size → Blk W gf 77 [.int .u64 st, .bool sh] →
  Calls Tryd.prog 64 #[.pointer (some ⟨gf, 0, none⟩), vV T A c] W (PCPost gf sh T W)
/-- The contract of PutValue. -/
def PV (B gf : Nat) (sh : Bool) (T : VT) : Prop := ∀ (W : World) (st : Int) (A : Bool → Option Addr) (c : Bool → Nat), TV W B T A c → B ≤ W.heap.size → Blk W gf 77 [.int .u64 st, .bool sh] →
  Calls Tryd.prog 36 #[vV T A c, .pointer (some ⟨gf, 0, none⟩)] W (PVPost gf sh T W)
theorem isB_catV {ds : Nat → List Int} : ∀ n, (∀ i, i < n → IsB (ds i)) → IsB (catV ds n)
  | 0, _ => by intro x hx; cases hx
  | n + 1, h => by
    intro x hx
    rcases List.mem_append.1 hx with hx | hx
    · exact isB_catV n (fun i hi => h i (by omega)) x hx
    · exact h n (by omega) x hx
theorem isB_txt (s : ByteArray) : IsB (txtL s) := by
  intro x hx
  obtain ⟨b, _, rfl⟩ := List.mem_map.1 hx
  have := b.toNat_lt
  omega
theorem txtL_length (s : ByteArray) : (txtL s).length = s.size := by
  unfold txtL
  rw [List.length_map, Array.length_toList]
  rfl
theorem isB_app {a b : List Int} (h : IsB a) (h2 : IsB b) : IsB (a ++ b) := fun x hx => (List.mem_append.1 hx).elim (h x) (h2 x)
theorem lenD_props (l : List Int) (cnt : Int) (z : Nat) (hz : z ≤ 4) (hl : IsB l) : IsB (lenD l cnt z) ∧ (lenD l cnt z).length ≤ l.length + 8 := by
  unfold lenD
  constructor
  · refine isB_app (isB_app (isB_be _ _) ?_) hl
    split
    · exact isB_be _ _
    · intro x hx; cases hx
  · rw [List.length_append, List.length_append, be_length]
    split
    · rw [be_length]; omega
    · simp; omega
/-- The forms of what stands behind its length. -/
theorem lenP_props (sh lo : Int) (l : List Int) (cnt : Int) (hl : IsB l) : (lo, lenD l cnt 4) ∈ lenP sh lo l cnt ∧ (lenP sh lo l cnt).length ≤ 2 ∧ ∀ p ∈ lenP sh lo l cnt, (p.1 = sh ∨ p.1 = lo) ∧ IsB p.2 ∧ p.2.length ≤ l.length + 8 := by
  unfold lenP
  refine ⟨List.mem_append_right _ (List.mem_singleton.2 rfl), ?_, fun p hp => ?_⟩
  · split <;> simp
  · rcases List.mem_append.1 hp with hp | hp
    · split at hp
      · rw [List.mem_singleton.1 hp]; exact ⟨.inl rfl, lenD_props l cnt 1 (by omega) hl⟩
      · cases hp
    · rw [List.mem_singleton.1 hp]; exact ⟨.inr rfl, lenD_props l cnt 4 (by omega) hl⟩
theorem numL_props (k u : Int) (hk : 2 ≤ k) (hk2 : k ≤ 16) (hk3 : k ≠ 14) : (∃ p ∈ numL k u, p.1 = cod k) ∧ (numL k u).length ≤ 3 ∧ ∀ p ∈ numL k u, p.1 ∈ codesK k ∧ IsB p.2 ∧ p.2.length ≤ 16 := by
  have hfz : ∀ n, (be u n).length = n := fun n => be_length u n
  refine ⟨⟨(cod k, be u (fsz k).toNat), ?_, rfl⟩, ?_, ?_⟩
  · unfold numL
    simp only
    split
    · simp
    · split <;> simp
  · unfold numL
    simp only
    split
    · have h1 : ∀ (p : Prop) [Decidable p] (x : Pce), (if p then [x] else []).length ≤ 1 := fun p _ x => by split <;> simp
      rw [List.length_append, List.length_append]
      have a1 := h1 (u = 0) (if k = 4 then 67 else 68, [])
      have a2 := h1 (u < 256) (if k = 4 then 82 else 83, be u 1)
      simp only [List.length_singleton]
      omega
    · split
      · split <;> simp
      · simp
  · have hfull : cod k ∈ codesK k ∧ IsB (be u (fsz k).toNat) ∧ (be u (fsz k).toNat).length ≤ 16 := by
      refine ⟨?_, isB_be _ _, ?_⟩
      · rcases (show k = 2 ∨ k = 3 ∨ k = 4 ∨ k = 5 ∨ k = 6 ∨ k = 7 ∨ k = 8 ∨ k = 9 ∨ k = 10 ∨ k = 11 ∨ k = 12 ∨ k = 13 ∨ k = 15 ∨ k = 16 by omega) with rfl | rfl | rfl | rfl | rfl | rfl | rfl | rfl | rfl | rfl | rfl | rfl | rfl | rfl <;> decide
      · rw [be_length]
        rcases (show k = 2 ∨ k = 3 ∨ k = 4 ∨ k = 5 ∨ k = 6 ∨ k = 7 ∨ k = 8 ∨ k = 9 ∨ k = 10 ∨ k = 11 ∨ k = 12 ∨ k = 13 ∨ k = 15 ∨ k = 16 by omega) with rfl | rfl | rfl | rfl | rfl | rfl | rfl | rfl | rfl | rfl | rfl | rfl | rfl | rfl <;> decide
    have hnil : IsB [] := fun x hx => by cases hx
    intro p hp
    unfold numL at hp
    simp only at hp
    split at hp
    · rename_i hk4
      rcases List.mem_append.1 hp with hp | hp
      · rcases List.mem_append.1 hp with hp | hp
        · split at hp
          · rw [List.mem_singleton.1 hp]
            rcases hk4 with rfl | rfl
            · exact ⟨by decide, hnil, by simp⟩
            · exact ⟨by decide, hnil, by simp⟩
          · cases hp
        · split at hp
          · rw [List.mem_singleton.1 hp]
            rcases hk4 with rfl | rfl
            · exact ⟨by simp [codesK, codesL], isB_be _ _, by rw [be_length]; omega⟩
            · exact ⟨by simp [codesK, codesL], isB_be _ _, by rw [be_length]; omega⟩
          · cases hp
      · rw [List.mem_singleton.1 hp]; exact hfull
    · split at hp
      · rename_i hk8
        rcases List.mem_append.1 hp with hp | hp
        · split at hp
          · rw [List.mem_singleton.1 hp]
            rcases hk8 with rfl | rfl
            · exact ⟨by simp [codesK, codesL], isB_be _ _, by rw [be_length]; omega⟩
            · exact ⟨by simp [codesK, codesL], isB_be _ _, by rw [be_length]; omega⟩
          · cases hp
        · rw [List.mem_singleton.1 hp]; exact hfull
      · rw [List.mem_singleton.1 hp]; exact hfull
end Go.Proofs.YtjjhckbidcdkcaaDoor
