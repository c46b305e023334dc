/- spec.Packs, packFits over a tree. -/
import Derived.Test.YtlpnaifagiddlaaDoorPh
import Derived.BigGuardPart
namespace Go.Proofs.YtlpnaifagiddlaaDoor
open Go.RowKit
set_option linter.unusedVariables false

set_option maxHeartbeats 4000000 in
set_option maxRecDepth 100000 in
theorem Packs_calls (B : Nat) : ∀ (T : PT) (W : World) (A : Option Addr) (c : Nat), TR W B T A c → B ≤ W.heap.size → T.cnt ≤ 2000 →
    Calls Tryd.prog 28 #[vP T A c] W fun e W' => e = .returned (.int .i64 (T.cnt : Nat)) ∧ Below W.heap.size W W'
  | .nil, W, A, c, h, hB, hct => h.elim
  | .mk k u s x n f, W, A, c, h, hB, hct => by
    have ih := fun i => Packs_calls B (f i)
    obtain ⟨hwf, hnc, hcm, hkids⟩ := h.open_
    rw [PT.cnt_eq] at hct ⊢
    simp only [PT.kid, PT.n] at hct ⊢ hnc
    have hmx : n ≤ 9223372036854775807 := by simp only [maxLen] at hcm; omega
    have HIH := Lib.hid ih
    have HKIDS := Lib.hid hkids
    clear ih h hkids hwf
    unfold vP
    simp only [PT.k, PT.u, PT.s, PT.x, PT.n]
    go_enter Tryd.func28, Tryd.ntmps28
    go_wp2
    go_loopw [3, 9] (fun v i wr => ∃ m N : Nat, m ≤ n ∧ i = .int .i64 m ∧ v = .int .i64 N ∧ N ≤ 2000 ∧ Hid (N = 1 + sumN (fun i => (f i).cnt) m ∧ Below W.heap.size W wr)) (fun _ i _ => n - (intOf i).toNat)
    case atStart => exact ⟨0, 1, Nat.zero_le _, rfl, rfl, by omega, rfl, (Below.refl _ _).alloc (Nat.le_refl _) _⟩
    case round =>
      obtain ⟨m, N, hm, rfl, rfl, hN2, hrest⟩ := hrel
      have HN := Lib.hid hrest.out.1
      have HBW := Lib.hid hrest.out.2
      clear hrest
      by_cases hlt : m < n
      · obtain ⟨g, o, hA, hgB, hk⟩ := HKIDS.out (show 0 < n by omega)
        obtain ⟨Ai, ci, c0, c1, c2, c3, c4, htk⟩ := hk m hlt
        have hce : ∀ q, wr.cell? ⟨g, q, none⟩ = W.cell? ⟨g, q, none⟩ := fun q => HBW.out.cell (p := ⟨g, q, none⟩) (Nat.lt_of_lt_of_le hgB hB)
        have d0 := (hce _).trans c0
        have d1 := (hce _).trans c1
        have d2 := (hce _).trans c2
        have d3 := (hce _).trans c3
        have d4 := (hce _).trans c4
        have hwz : W.heap.size ≤ wr.heap.size := HBW.out.size
        have hcs : N + (f m).cnt ≤ 2000 := by
          have h1 := sumN_le (fun i => (f i).cnt) (show m + 1 ≤ n by omega)
          have h2 : sumN (fun i => (f i).cnt) (m + 1) = sumN (fun i => (f i).cnt) m + (f m).cnt := rfl
          have := HN.out
          omega
        have hcall := fun W3 h3 h4 => HIH.out m W3 Ai ci (TR.below (HBW.out.trans h3 |>.mono hB) _ _ _ htk) h4 (by omega)
        unfold vP at hcall
        simp only [PT.kid] at d0 d1 d2 d3 d4
        have hsum : sumN (fun i => (f i).cnt) (m + 1) = sumN (fun i => (f i).cnt) m + (f m).cnt := rfl
        subst hA
        have HC := Lib.hid hcall
        generalize f m = T at *
        have HSUM := Lib.hid hsum
        clear hk c0 c1 c2 c3 c4 htk hce hcall hsum
        go_wp2_with (
          (go_at_call 28)
          go_must (
            (refine (HC.out _ ((Below.refl _ wr).alloc hwz _) (by simp; omega)).mono ?_)
            rintro e w3 ⟨rfl, hb3⟩
            have HB3 : Hid (Below W.heap.size W w3) := (HBW.out.alloc hwz _).trans (hb3.mono (by simp; omega))
            clear hb3))
        go_roundw
        case rel => exact ⟨m + 1, N + T.cnt, by omega, by go_num, by go_num, hcs, by rw [HSUM.out, HN.out]; omega, HB3.out⟩
        case measure => simp [intOf]; omega
      · obtain rfl : m = n := by omega
        go_wp2
        go_ret
        refine ⟨?_, HBW.out⟩
        rw [← HN.out]
        rfl

/-- A value that packFits takes, at its head. -/
def PT.ok (T : PT) (lv : Int) : Prop :=
  0 < lv ∧ 0 ≤ T.k ∧ T.k ≤ 10 ∧ (T.k ≠ 8 → T.k ≠ 9 → T.n = 0) ∧ (T.k ≠ 6 → T.k ≠ 7 → T.k ≠ 10 → T.s = ByteArray.empty) ∧ (T.k < 1 ∨ 5 < T.k → T.u = 0) ∧ (T.k ≠ 10 → T.x = 0) ∧ -128 ≤ T.x ∧ T.x ≤ 127 ∧
  (T.k = 1 → T.u ≤ 1) ∧ (T.k = 4 → T.u < 4294967296) ∧ (T.k = 9 → T.n % 2 = 0) ∧ T.n ≤ 2000 ∧ T.s.size ≤ 131072
def Fits : PT → Int → Prop
  | .nil => fun _ => False
  | .mk k u s x n f => fun lv => (PT.mk k u s x n f).ok lv ∧ ∀ i, i < n → Fits (f i) (lv - 1)

end Go.Proofs.YtlpnaifagiddlaaDoor
