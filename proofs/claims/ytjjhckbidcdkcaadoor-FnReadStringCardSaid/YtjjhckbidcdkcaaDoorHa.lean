/- A value of AMQP with the values in it and its descriptor, as a tree, and how it lies in memory. By hand. -/
import Derived.Test.YtjjhckbidcdkcaaDoorKa
namespace Go.Proofs.YtjjhckbidcdkcaaDoor
open Go.RowKit
set_option linter.unusedVariables false

/-- A value: its kind, number, text, the kind of an array's values; the values in it (false) and its descriptor (true). -/
inductive VT where
  | nil
  | mk (k u : Int) (s : ByteArray) (o : Int) (n : Bool → Nat) (f : Bool → Nat → VT)
/-- Trees there are. -/
def VT.one : VT := .mk 0 0 ByteArray.empty 0 (fun _ => 0) (fun _ _ => .nil)
def VT.k : VT → Int | .nil => 0 | .mk k _ _ _ _ _ => k
def VT.u : VT → Int | .nil => 0 | .mk _ u _ _ _ _ => u
def VT.s : VT → ByteArray | .nil => ByteArray.empty | .mk _ _ s _ _ _ => s
def VT.o : VT → Int | .nil => 0 | .mk _ _ _ o _ _ => o
def VT.n : VT → Bool → Nat | .nil => fun _ => 0 | .mk _ _ _ _ n _ => n
def VT.kid : VT → Bool → Nat → VT | .nil => fun _ _ => .nil | .mk _ _ _ _ _ f => f
def sumV (f : Nat → Nat) : Nat → Nat
  | 0 => 0
  | n + 1 => sumV f n + f n
/-- How many values there are in a value. -/
def VT.cnt : VT → Nat
  | .nil => 1
  | .mk _ _ _ _ n f => 1 + sumV (fun i => (f false i).cnt) (n false) + sumV (fun i => (f true i).cnt) (n true)
theorem VT.cnt_pos : ∀ T : VT, 1 ≤ T.cnt
  | .nil => Nat.le_refl _
  | .mk _ _ _ _ n f => by unfold VT.cnt; omega
theorem VT.cnt_eq (T : VT) : T.cnt = 1 + sumV (fun i => (T.kid false i).cnt) (T.n false) + sumV (fun i => (T.kid true i).cnt) (T.n true) := by
  cases T with
  | nil => simp [VT.cnt, VT.n, sumV]
  | mk => simp [VT.cnt, VT.kid, VT.n]
theorem sumV_le (f : Nat → Nat) {i n : Nat} (h : i ≤ n) : sumV f i ≤ sumV f n := by
  induction n with
  | zero =>
    obtain rfl : i = 0 := by omega
    exact Nat.le_refl _
  | succ n ih =>
    by_cases hi : i = n + 1
    · subst hi; exact Nat.le_refl _
    · exact Nat.le_trans (ih (by omega)) (by simp [sumV])
theorem sumV_one (f : Nat → Nat) (h : ∀ i, 1 ≤ f i) : ∀ n, n ≤ sumV f n
  | 0 => Nat.le_refl _
  | n + 1 => by have := sumV_one f h n; have := h n; simp only [sumV]; omega
/-- The fields are what their types hold. -/
def VT.wf (T : VT) : Prop := -9223372036854775808 ≤ T.k ∧ T.k ≤ 9223372036854775807 ∧ 0 ≤ T.u ∧ T.u ≤ 18446744073709551615 ∧ -9223372036854775808 ≤ T.o ∧ T.o ≤ 9223372036854775807 ∧ T.s.size ≤ maxLen
/-- Six cells of a value at a place. -/
def VAt (W : World) (g o : Nat) (T : VT) (A : Bool → Option Addr) (c : Bool → Nat) : Prop :=
  W.cell? ⟨g, o, none⟩ = some (.int .i64 T.k) ∧ W.cell? ⟨g, o + 1, none⟩ = some (.int .u64 T.u) ∧ W.cell? ⟨g, o + 2, none⟩ = some (.string T.s) ∧
  W.cell? ⟨g, o + 3, none⟩ = some (.slice (A false) (T.n false) (c false)) ∧ W.cell? ⟨g, o + 4, none⟩ = some (.int .i64 T.o) ∧ W.cell? ⟨g, o + 5, none⟩ = some (.slice (A true) (T.n true) (c true))
theorem VAt.keep {W W' : World} {g o : Nat} {T : VT} {A : Bool → Option Addr} {c : Bool → Nat} (h : VAt W g o T A c) (hk : ∀ q, W'.cell? ⟨g, q, none⟩ = W.cell? ⟨g, q, none⟩) : VAt W' g o T A c := by
  obtain ⟨c0, c1, c2, c3, c4, c5⟩ := h
  exact ⟨(hk _).trans c0, (hk _).trans c1, (hk _).trans c2, (hk _).trans c3, (hk _).trans c4, (hk _).trans c5⟩
/-- How a value lies in memory: its slices at A. -/
def TV (W : World) (B : Nat) : VT → (Bool → Option Addr) → (Bool → Nat) → Prop
  | .nil => fun _ _ => False
  | .mk k u s o n f => fun A c => (VT.mk k u s o n f).wf ∧ ∀ b, n b ≤ c b ∧ c b ≤ maxLen ∧ (0 < n b → ∃ g p, A b = some ⟨g, p, none⟩ ∧ g < B ∧ ∀ i, i < n b → ∃ Ai ci, VAt W g (p + i * 6) (f b i) Ai ci ∧ TV W B (f b i) Ai ci)
theorem TV.open_ {W : World} {B : Nat} {T : VT} {A : Bool → Option Addr} {c : Bool → Nat} (h : TV W B T A c) : T.wf ∧ ∀ b, T.n b ≤ c b ∧ c b ≤ maxLen ∧ (0 < T.n b → ∃ g p, A b = some ⟨g, p, none⟩ ∧ g < B ∧ ∀ i, i < T.n b → ∃ Ai ci, VAt W g (p + i * 6) (T.kid b i) Ai ci ∧ TV W B (T.kid b i) Ai ci) := by
  cases T with
  | nil => exact h.elim
  | mk => exact h
theorem TV.below {W W' : World} {B : Nat} (hb : Below B W W') : ∀ (T : VT) (A : Bool → Option Addr) (c : Bool → Nat), TV W B T A c → TV W' B T A c
  | .nil, A, c, h => h.elim
  | .mk k u s o n f, A, c, h => by
    obtain ⟨h1, h2⟩ := h
    refine ⟨h1, fun b => ⟨(h2 b).1, (h2 b).2.1, fun h0 => ?_⟩⟩
    obtain ⟨g, p, hA, hg, hk⟩ := (h2 b).2.2 h0
    refine ⟨g, p, hA, hg, fun i hi => ?_⟩
    obtain ⟨Ai, ci, hv, ht⟩ := hk i hi
    exact ⟨Ai, ci, hv.keep fun q => hb.cell (p := ⟨g, q, none⟩) hg, TV.below hb (f b i) Ai ci ht⟩
theorem TV.more {W : World} {B B' : Nat} (hB : B ≤ B') : ∀ (T : VT) (A : Bool → Option Addr) (c : Bool → Nat), TV W B T A c → TV W B' T A c
  | .nil, A, c, h => h.elim
  | .mk k u s o n f, A, c, h => by
    obtain ⟨h1, h2⟩ := h
    refine ⟨h1, fun b => ⟨(h2 b).1, (h2 b).2.1, fun h0 => ?_⟩⟩
    obtain ⟨g, p, hA, hg, hk⟩ := (h2 b).2.2 h0
    refine ⟨g, p, hA, Nat.lt_of_lt_of_le hg hB, fun i hi => ?_⟩
    obtain ⟨Ai, ci, hv, ht⟩ := hk i hi
    exact ⟨Ai, ci, hv, TV.more hB (f b i) Ai ci ht⟩
/-- The cells of a value. -/
def cV (T : VT) (A : Bool → Option Addr) (c : Bool → Nat) : List Value := [.int .i64 T.k, .int .u64 T.u, .string T.s, .slice (A false) (T.n false) (c false), .int .i64 T.o, .slice (A true) (T.n true) (c true)]
/-- A value as an argument. -/
def vV (T : VT) (A : Bool → Option Addr) (c : Bool → Nat) : Value := .agg #[.int .i64 T.k, .int .u64 T.u, .string T.s, .slice (A false) (T.n false) (c false), .int .i64 T.o, .slice (A true) (T.n true) (c true)]
theorem belowV {B : Nat} {W W' : World} {row : Option Nat} (hg : W.grownBy W' row) (hr : ∀ j, row = some j → B ≤ j) (hB : B ≤ W.heap.size) : Below B W W' := (Below.refl B W).grown hg hB hr
theorem grownV_refl (w : World) (row : Option Nat) : w.grownBy w row := ⟨rfl, rfl, rfl, Nat.le_refl _, fun _ _ _ => rfl⟩
theorem grownV_trans {a b c : World} {row : Option Nat} (h : a.grownBy b row) (h2 : b.grownBy c row) : a.grownBy c row :=
  ⟨h2.os.trans h.os, h2.tape.trans h.tape, h2.output.trans h.output, Nat.le_trans h.size h2.size, fun j hj hn => (h2.block j (Nat.lt_of_lt_of_le hj h.size) hn).trans (h.block j hj hn)⟩
theorem grownV_set (W : World) (g i : Nat) (v : Value) : W.grownBy (W.setCell ⟨g, i, none⟩ v) (some g) :=
  ⟨rfl, rfl, rfl, by simp, fun k hk hne => Below.heap_setCell W ⟨g, i, none⟩ v k (fun e => hne (by rw [e]))⟩
end Go.Proofs.YtjjhckbidcdkcaaDoor
