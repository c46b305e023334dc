/- A value of MessagePack with the values in it, as a tree, and how it lies in memory. -/
import Derived.Test.YtfhaddnacdjpoaaDoorPc
namespace Go.Proofs.YtfhaddnacdjpoaaDoor
open Go.RowKit
set_option linter.unusedVariables false

/-- A value: its kind, number, text, type, how many values are in it, and these. -/
inductive PT where
  | nil
  | mk (k u : Int) (s : ByteArray) (x : Int) (n : Nat) (f : Nat → PT)
def PT.one : PT := .mk 0 0 ByteArray.empty 0 0 (fun _ => .nil)
def PT.k : PT → Int | .nil => 0 | .mk k _ _ _ _ _ => k
def PT.u : PT → Int | .nil => 0 | .mk _ u _ _ _ _ => u
def PT.s : PT → ByteArray | .nil => ByteArray.empty | .mk _ _ s _ _ _ => s
def PT.x : PT → Int | .nil => 0 | .mk _ _ _ x _ _ => x
def PT.n : PT → Nat | .nil => 0 | .mk _ _ _ _ n _ => n
def PT.kid : PT → Nat → PT | .nil => fun _ => .nil | .mk _ _ _ _ _ f => f
def sumN (f : Nat → Nat) : Nat → Nat
  | 0 => 0
  | n + 1 => sumN f n + f n
/-- How many values there are in a value. -/
def PT.cnt : PT → Nat
  | .nil => 1
  | .mk _ _ _ _ n f => 1 + sumN (fun i => (f i).cnt) n
theorem PT.cnt_eq (T : PT) : T.cnt = 1 + sumN (fun i => (T.kid i).cnt) T.n := by
  cases T with
  | nil => simp [PT.cnt, PT.n, sumN]
  | mk => simp [PT.cnt, PT.kid, PT.n]
theorem sumN_le (f : Nat → Nat) {i n : Nat} (h : i ≤ n) : sumN f i ≤ sumN f n := by
  induction n with
  | zero => obtain rfl : i = 0 := by omega
            exact Nat.le_refl _
  | succ n ih =>
    by_cases hi : i = n + 1
    · subst hi; exact Nat.le_refl _
    · exact Nat.le_trans (ih (by omega)) (by simp [sumN])
/-- The fields are what their types hold. -/
def PT.wf (T : PT) : Prop := -9223372036854775808 ≤ T.k ∧ T.k ≤ 9223372036854775807 ∧ 0 ≤ T.u ∧ T.u ≤ 18446744073709551615 ∧ -9223372036854775808 ≤ T.x ∧ T.x ≤ 9223372036854775807 ∧ T.s.size ≤ maxLen
/-- How a value lies in memory: its slice of values at A. -/
def TR (W : World) (B : Nat) : PT → Option Addr → Nat → Prop
  | .nil => fun _ _ => False
  | .mk k u s x n f => fun A c => (PT.mk k u s x n f).wf ∧ n ≤ c ∧ c ≤ maxLen ∧ (0 < n → ∃ g o, A = some ⟨g, o, none⟩ ∧ g < B ∧ ∀ i, i < n → ∃ Ai ci,
      W.cell? ⟨g, o + i * 5, none⟩ = some (.int .i64 (f i).k) ∧ W.cell? ⟨g, o + i * 5 + 1, none⟩ = some (.int .u64 (f i).u) ∧ W.cell? ⟨g, o + i * 5 + 2, none⟩ = some (.string (f i).s) ∧
      W.cell? ⟨g, o + i * 5 + 3, none⟩ = some (.int .i64 (f i).x) ∧ W.cell? ⟨g, o + i * 5 + 4, none⟩ = some (.slice Ai (f i).n ci) ∧ TR W B (f i) Ai ci)
theorem TR.open_ {W : World} {B : Nat} {T : PT} {A : Option Addr} {c : Nat} (h : TR W B T A c) : T.wf ∧ T.n ≤ c ∧ c ≤ maxLen ∧ (0 < T.n → ∃ g o, A = some ⟨g, o, none⟩ ∧ g < B ∧ ∀ i, i < T.n → ∃ Ai ci,
      W.cell? ⟨g, o + i * 5, none⟩ = some (.int .i64 (T.kid i).k) ∧ W.cell? ⟨g, o + i * 5 + 1, none⟩ = some (.int .u64 (T.kid i).u) ∧ W.cell? ⟨g, o + i * 5 + 2, none⟩ = some (.string (T.kid i).s) ∧
      W.cell? ⟨g, o + i * 5 + 3, none⟩ = some (.int .i64 (T.kid i).x) ∧ W.cell? ⟨g, o + i * 5 + 4, none⟩ = some (.slice Ai (T.kid i).n ci) ∧ TR W B (T.kid i) Ai ci) := by
  cases T with
  | nil => exact h.elim
  | mk => exact h
theorem TR.below {W W' : World} {B : Nat} (hb : Below B W W') : ∀ (T : PT) (A : Option Addr) (c : Nat), TR W B T A c → TR W' B T A c
  | .nil, A, c, h => h.elim
  | .mk k u s x n f, A, c, h => by
    obtain ⟨h1, h2, h3, h4⟩ := h
    refine ⟨h1, h2, h3, fun h0 => ?_⟩
    obtain ⟨g, o, hA, hg, hk⟩ := h4 h0
    refine ⟨g, o, hA, hg, fun i hi => ?_⟩
    obtain ⟨Ai, ci, c0, c1, c2, c3, c4, ht⟩ := hk i hi
    have hc : ∀ q, W'.cell? ⟨g, q, none⟩ = W.cell? ⟨g, q, none⟩ := fun q => hb.cell (p := ⟨g, q, none⟩) hg
    exact ⟨Ai, ci, by rw [hc]; exact c0, by rw [hc]; exact c1, by rw [hc]; exact c2, by rw [hc]; exact c3, by rw [hc]; exact c4, TR.below hb (f i) Ai ci ht⟩
theorem TR.more {W : World} {B B' : Nat} (hB : B ≤ B') : ∀ (T : PT) (A : Option Addr) (c : Nat), TR W B T A c → TR W B' T A c
  | .nil, A, c, h => h.elim
  | .mk k u s x n f, A, c, h => by
    obtain ⟨h1, h2, h3, h4⟩ := h
    refine ⟨h1, h2, h3, fun h0 => ?_⟩
    obtain ⟨g, o, hA, hg, hk⟩ := h4 h0
    refine ⟨g, o, hA, by omega, fun i hi => ?_⟩
    obtain ⟨Ai, ci, c0, c1, c2, c3, c4, ht⟩ := hk i hi
    exact ⟨Ai, ci, c0, c1, c2, c3, c4, TR.more hB (f i) Ai ci ht⟩
/-- A value as an argument. -/
def vP (T : PT) (A : Option Addr) (c : Nat) : Value := .agg #[.int .i64 T.k, .int .u64 T.u, .string T.s, .int .i64 T.x, .slice A T.n c]
/-- The cells of a value. -/
def cP (T : PT) (A : Option Addr) (c : Nat) : List Value := [.int .i64 T.k, .int .u64 T.u, .string T.s, .int .i64 T.x, .slice A T.n c]
theorem below_of_grown {B : Nat} {W W' : World} {row : Option Nat} (hg : W.grownBy W' row) (hr : ∀ j, row = some j → B ≤ j) (hB : B ≤ W.heap.size) : Below B W W' := (Below.refl B W).grown hg hB hr
theorem grownP_refl (w : World) (row : Option Nat) : w.grownBy w row := ⟨rfl, rfl, rfl, Nat.le_refl _, fun _ _ _ => rfl⟩

end Go.Proofs.YtfhaddnacdjpoaaDoor
