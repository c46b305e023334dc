/- A value of MessagePack with the values in it, as a tree, and how it lies in memory. -/
import Derived.Test.YtlpnaifagiddlaaDoorPc
namespace Go.Proofs.YtlpnaifagiddlaaDoor
open Go.RowKit
set_option linter.unusedVariables false

/-- A value: its kind, number, text, type, how many values are in it, and these. -/
inductive PT where
  | nil
  | mk (k u : Int) (s : ByteArray) (x : Int) (n : Nat) (f : Nat → PT)
def PT.one : PT := .mk 0 0 ByteArray.empty 0 0 (fun _ => .nil)
def PT.k : PT → Int | .nil => 0 | .mk k _ _ _ _ _ => k
def PT.u : PT → Int | .nil => 0 | .mk _ u _ _ _ _ => u
def PT.s : PT → ByteArray | .nil => ByteArray.empty | .mk _ _ s _ _ _ => s
def PT.x : PT → Int | .nil => 0 | .mk _ _ _ x _ _ => x
def PT.n : PT → Nat | .nil => 0 | .mk _ _ _ _ n _ => n
def PT.kid : PT → Nat → PT | .nil => fun _ => .nil | .mk _ _ _ _ _ f => f
def sumN (f : Nat → Nat) : Nat → Nat
  | 0 => 0
  | n + 1 => sumN f n + f n
/-- How many values there are in a value. -/
def PT.cnt : PT → Nat
  | .nil => 1
  | .mk _ _ _ _ n f => 1 + sumN (fun i => (f i).cnt) n
theorem PT.cnt_eq (T : PT) : T.cnt = 1 + sumN (fun i => (T.kid i).cnt) T.n := by
  cases T with
  | nil => simp [PT.cnt, PT.n, sumN]
  | mk => simp [PT.cnt, PT.kid, PT.n]
theorem sumN_le (f : Nat → Nat) {i n : Nat} (h : i ≤ n) : sumN f i ≤ sumN f n := by
  induction n with
  | zero => obtain rfl : i = 0 := by omega
            exact Nat.le_refl _
  | succ n ih =>
    by_cases hi : i = n + 1
    · subst hi; exact Nat.le_refl _
    · exact Nat.le_trans (ih (by omega)) (by simp [sumN])
/-- The fields are what their types hold. -/
def PT.wf (T : PT) : Prop := -9223372036854775808 ≤ T.k ∧ T.k ≤ 9223372036854775807 ∧ 0 ≤ T.u ∧ T.u ≤ 18446744073709551615 ∧ -9223372036854775808 ≤ T.x ∧ T.x ≤ 9223372036854775807 ∧ T.s.size ≤ maxLen
/-- How a value lies in memory: its slice of values at A. -/
def TR (W : World) (B : Nat) : PT → Option Addr → Nat → Prop
  | .nil => fun _ _ => False
  | .mk k u s x n f => fun A c => (PT.mk k u s x n f).wf ∧ n ≤ c ∧ c ≤ maxLen ∧ (0 < n → ∃ g o, A = some ⟨g, o, none⟩ ∧ g < B ∧ ∀ i, i < n → ∃ Ai ci,
      W.cell? ⟨g, o + i * 5, none⟩ = some (.int .i64 (f i).k) ∧ W.cell? ⟨g, o + i * 5 + 1, none⟩ = some (.int .u64 (f i).u) ∧ W.cell? ⟨g, o + i * 5 + 2, none⟩ = some (.string (f i).s) ∧
      W.cell? ⟨g, o + i * 5 + 3, none⟩ = some (.int .i64 (f i).x) ∧ W.cell? ⟨g, o + i * 5 + 4, none⟩ = some (.slice Ai (f i).n ci) ∧ TR W B (f i) Ai ci)
theorem TR.open_ {W : World} {B : Nat} {T : PT} {A : Option Addr} {c : Nat} (h : TR W B T A c) : T.wf ∧ T.n ≤ c ∧ c ≤ maxLen ∧ (0 < T.n → ∃ g o, A = some ⟨g, o, none⟩ ∧ g < B ∧ ∀ i, i < T.n → ∃ Ai ci,
      W.cell? ⟨g, o + i * 5, none⟩ = some (.int .i64 (T.kid i).k) ∧ W.cell? ⟨g, o + i * 5 + 1, none⟩ = some (.int .u64 (T.kid i).u) ∧ W.cell? ⟨g, o + i * 5 + 2, none⟩ = some (.string (T.kid i).s) ∧
      W.cell? ⟨g, o + i * 5 + 3, none⟩ = some (.int .i64 (T.kid i).x) ∧ W.cell? ⟨g, o + i * 5 + 4, none⟩ = some (.slice Ai (T.kid i).n ci) ∧ TR W B (T.kid i) Ai ci) := by
  cases T with
  | nil => exact h.elim
  | mk => exact h
theorem TR.below {W W' : World} {B : Nat} (hb : Below B W W') : ∀ (T : PT) (A : Option Addr) (c : Nat), TR W B T A c → TR W' B T A c
  | .nil, A, c, h => h.elim
  | .mk k u s x n f, A, c, h => by
    obtain ⟨h1, h2, h3, h4⟩ := h
    refine ⟨h1, h2, h3, fun h0 => ?_⟩
    obtain ⟨g, o, hA, hg, hk⟩ := h4 h0
    refine ⟨g, o, hA, hg, fun i hi => ?_⟩
    obtain ⟨Ai, ci, c0, c1, c2, c3, c4, ht⟩ := hk i hi
    have hc : ∀ q, W'.cell? ⟨g, q, none⟩ = W.cell? ⟨g, q, none⟩ := fun q => hb.cell (p := ⟨g, q, none⟩) hg
    exact ⟨Ai, ci, by rw [hc]; exact c0, by rw [hc]; exact c1, by rw [hc]; exact c2, by rw [hc]; exact c3, by rw [hc]; exact c4, TR.below hb (f i) Ai ci ht⟩
theorem TR.more {W : World} {B B' : Nat} (hB : B ≤ B') : ∀ (T : PT) (A : Option Addr) (c : Nat), TR W B T A c → TR W B' T A c
  | .nil, A, c, h => h.elim
  | .mk k u s x n f, A, c, h => by
    obtain ⟨h1, h2, h3, h4⟩ := h
    refine ⟨h1, h2, h3, fun h0 => ?_⟩
    obtain ⟨g, o, hA, hg, hk⟩ := h4 h0
    refine ⟨g, o, hA, by omega, fun i hi => ?_⟩
    obtain ⟨Ai, ci, c0, c1, c2, c3, c4, ht⟩ := hk i hi
    exact ⟨Ai, ci, c0, c1, c2, c3, c4, TR.more hB (f i) Ai ci ht⟩
/-- A value as an argument. -/
def vP (T : PT) (A : Option Addr) (c : Nat) : Value := .agg #[.int .i64 T.k, .int .u64 T.u, .string T.s, .int .i64 T.x, .slice A T.n c]
/-- The cells of a value. -/
def cP (T : PT) (A : Option Addr) (c : Nat) : List Value := [.int .i64 T.k, .int .u64 T.u, .string T.s, .int .i64 T.x, .slice A T.n c]
theorem below_of_grown {B : Nat} {W W' : World} {row : Option Nat} (hg : W.grownBy W' row) (hr : ∀ j, row = some j → B ≤ j) (hB : B ≤ W.heap.size) : Below B W W' := (Below.refl B W).grown hg hB hr
theorem grownP_refl (w : World) (row : Option Nat) : w.grownBy w row := ⟨rfl, rfl, rfl, Nat.le_refl _, fun _ _ _ => rfl⟩

set_option maxHeartbeats 4000000 in
set_option maxRecDepth 100000 in
theorem fewPacks_calls (B : Nat) : ∀ (T : PT) (W : World) (gl : Nat) (L : Int) (A : Option Addr) (c : Nat), TR W B T A c → B ≤ W.heap.size → B ≤ gl → Blk W gl 3 [.int .i64 L] → 0 ≤ L → L ≤ 2000 →
    Calls Tryd.prog 41 #[vP T A c, .pointer (some ⟨gl, 0, none⟩)] W fun e W' => ∃ (b : Bool) (L' : Int), e = .returned (.bool b) ∧ Blk W' gl 3 [.int .i64 L'] ∧ (b = true → L' = L - T.cnt ∧ 0 ≤ L') ∧ W.grownBy W' (some gl)
  | .mk k u s x n f, W, gl, L, A, c, h, hB, hgl, hb, hL0, hL1 => by
    have ih := fun i => fewPacks_calls B (f i)
    obtain ⟨hwf, hnc, hcm, hkids⟩ := h.open_
    have hq := hb.cell 0
    simp only [List.getElem?_cons_zero] at hq
    have fz := hb.frozen 0
    have hgw := hb.lt
    have HIH := Lib.hid ih
    have HT := Lib.hid h
    have HB := Lib.hid hb
    have HKIDS := Lib.hid hkids
    have HWF := Lib.hid hwf
    clear ih h hb hkids hwf
    simp only [PT.n] at hnc
    unfold vP
    simp only [PT.k, PT.u, PT.s, PT.x, PT.n]
    by_cases hL : L = 0
    · subst hL
      go_enter Tryd.func41, Tryd.ntmps41
      go_wp2
      go_ret
      exact ⟨false, -1, rfl, (HB.out.set_ 0 _).alloc _, (by intro h; cases h), grownP_trans (grown_set _ _ _ _) (World.grownBy_alloc _ _ _)⟩
    · have hL2 : 1 ≤ L := by omega
      clear hL
      obtain ⟨w1, hw1⟩ : ∃ w1, w1 = (W.setCell ⟨gl, 0, none⟩ (.int .i64 (L - 1))).alloc (.cells #[.int .i64 k, .int .u64 u, .string s, .int .i64 x, .slice A n c] 25) := ⟨_, rfl⟩
      have hb1 : Blk w1 gl 3 [.int .i64 (L - 1)] := by rw [hw1]; exact (HB.out.set_ 0 _).alloc _
      have hp1 : Blk w1 W.heap.size 25 [.int .i64 k, .int .u64 u, .string s, .int .i64 x, .slice A n c] := by
        rw [hw1]
        have := Blk.new (W.setCell ⟨gl, 0, none⟩ (.int .i64 (L - 1))) 25 [.int .i64 k, .int .u64 u, .string s, .int .i64 x, .slice A n c]
        rwa [show (W.setCell ⟨gl, 0, none⟩ (.int .i64 (L - 1))).heap.size = W.heap.size by simp] at this
      have hg1 : W.grownBy w1 (some gl) := by rw [hw1]; exact grownP_trans (grown_set _ _ _ _) (World.grownBy_alloc _ _ _)
      have HW1 := Lib.hid hw1
      have HB1 := Lib.hid hb1
      have HP1 := Lib.hid hp1
      have HG1 := Lib.hid hg1
      clear hw1 hb1 hp1 hg1
      go_enter Tryd.func41, Tryd.ntmps41
      go_wp2
      rw [← HW1.out]
      clear hq
      go_loopw [5] (fun i wr => ∃ m : Nat, m ≤ n ∧ i = .int .i64 m ∧ Hid (∃ L' : Int, L' = L - 1 - sumN (fun i => (f i).cnt) m ∧ 0 ≤ L' ∧ Blk wr gl 3 [.int .i64 L'] ∧ Blk wr W.heap.size 25 [.int .i64 k, .int .u64 u, .string s, .int .i64 x, .slice A n c] ∧ W.grownBy wr (some gl))) (fun i _ => n - (intOf i).toNat)
      case atStart => exact ⟨0, Nat.zero_le _, rfl, L - 1, by simp [sumN], by omega, HB1.out, HP1.out, HG1.out⟩
      case round =>
        obtain ⟨m, hm, rfl, hrest⟩ := hrel
        obtain ⟨L', hL', hL'0, hb2, hp2, hg2⟩ := hrest.out
        have r4 := hp2.cell 4
        simp only [List.getElem?_cons_zero, List.getElem?_cons_succ] at r4
        have hmx : n ≤ 9223372036854775807 := by simp only [maxLen] at hcm; omega
        have HL' := Lib.hid hL'
        have HB2 := Lib.hid hb2
        have HP2 := Lib.hid hp2
        have HG2 := Lib.hid hg2
        clear hrest hL' hb2 hp2 hg2
        by_cases hlt : m < n
        · obtain ⟨g, o, hA, hgB, hk⟩ := HKIDS.out (show 0 < n by omega)
          obtain ⟨Ai, ci, c0, c1, c2, c3, c4, htk⟩ := hk m hlt
          have hbel : Below B W wr := below_of_grown HG2.out (fun j hj => by injection hj with hj; omega) hB
          have hce : ∀ q, wr.cell? ⟨g, q, none⟩ = W.cell? ⟨g, q, none⟩ := fun q => hbel.cell (p := ⟨g, q, none⟩) hgB
          have d0 := (hce _).trans c0
          have d1 := (hce _).trans c1
          have d2 := (hce _).trans c2
          have d3 := (hce _).trans c3
          have d4 := (hce _).trans c4
          have hcall := HIH.out m wr gl L' Ai ci (TR.below hbel _ _ _ htk) (Nat.le_trans hB hbel.size) hgl HB2.out hL'0 (by have := HL'.out; omega)
          unfold vP at hcall
          simp only [PT.kid] at d0 d1 d2 d3 d4
          subst hA
          have HC := Lib.hid hcall
          clear hk c0 c1 c2 c3 c4 htk hbel hce hcall
          have hsum : sumN (fun i => (f i).cnt) (m + 1) = sumN (fun i => (f i).cnt) m + (f m).cnt := rfl
          generalize f m = T at *
          have HSUM := Lib.hid hsum
          clear hsum
          go_wp2_with (
            (go_at_call 41)
            go_must (
              (refine HC.out.mono ?_)
              rintro e w3 ⟨b, L3, rfl, hb3, hL3, hg3⟩
              have HB3 := Lib.hid hb3
              have HL3 := Lib.hid hL3
              have HG3 := Lib.hid hg3
              clear hb3 hL3 hg3))
          · go_ret
            exact ⟨false, L3, rfl, HB3.out, (by intro h; cases h), grownP_trans HG2.out HG3.out⟩
          · have hbt : (!b) = false := by assumption
            have hL3 := HL3.out (by simpa using hbt)
            go_wp2
            go_roundw
            case rel =>
              refine ⟨m + 1, by omega, by go_num, L3, ?_, hL3.2, HB3.out, HP2.out.grown HG3.out (by intro e; injection e with e; omega), grownP_trans HG2.out HG3.out⟩
              rw [HSUM.out, hL3.1, HL'.out]
              omega
            case measure => simp [intOf]; omega
        · obtain rfl : m = n := by omega
          go_wp2
          go_ret
          refine ⟨true, L', rfl, HB2.out, fun _ => ⟨?_, hL'0⟩, HG2.out⟩
          have := HL'.out
          rw [PT.cnt_eq]
          simp only [PT.kid, PT.n]
          omega
end Go.Proofs.YtlpnaifagiddlaaDoor
