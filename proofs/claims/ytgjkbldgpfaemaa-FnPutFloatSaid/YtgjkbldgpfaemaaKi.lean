/- The contract of the laws' 'appended': true where what stands behind is read as the value. -/
import Derived.Test.YtgjkbldgpfaemaaKh
import Derived.Laws.BytesArg
namespace Go.Proofs.Ytgjkbldgpfaemaa
open Go.RowKit
set_option linter.unusedVariables false

theorem conv_reads {P : Program} {w : World} {B n c : Nat} {A : Option Addr} {l : List Int} (h : Reads w B 1 A n (bs l)) (src e dst : TypeId) (hs : P.underlying src = some (.slice e)) (he : P.underlying e = some (.int .u8)) (hd : P.underlying dst = some .string) :
    (convert src dst (.slice A n c)).run P w = .ok (.string (strOfNums l)) w := by
  have hn := h.bytes
  rcases A with _ | ad
  · have h0 : n = 0 := by
      rcases Nat.eq_zero_or_pos n with h0 | h0
      · exact h0
      · obtain ⟨_, h1, _⟩ := h.2 h0
        cases h1
    have : l = [] := List.eq_nil_of_length_eq_zero (by omega)
    subst this
    exact run_convert_bytes_nil w src e hs he n c dst hd
  · have hl : (loadCells ad n).run P w = .ok (l.map (Value.int .u8)).toArray w := by
      have := run_loadCells_list (P := P) w ad (l.map (Value.int .u8)) (fun j v hj => by
        have hj0 : 0 < n := by
          rcases Nat.eq_zero_or_pos n with h0 | h0
          · have : l = [] := List.eq_nil_of_length_eq_zero (by omega)
            subst this
            simp at hj
          · exact h0
        obtain ⟨ad', h1, _, h2⟩ := h.2 hj0
        injection h1 with h1
        subst h1
        exact h2 j v hj)
      simpa [hn] using this
    rw [run_convert_bytes_string w src dst e _ n c hs he hd, run_bytesToString w ad n c l hl, foldl_push_bytes]
    simp [strOfNums, ByteArray.empty, ByteArray.emptyWithCapacity]
    rfl

set_option maxHeartbeats 2000000 in
set_option maxRecDepth 100000 in
theorem appended_calls (w : World) (B c0 c1 : Nat) (A0 A1 : Option Addr) (lb r : List Int) (m : Int) (k u x k' u' x' : Int) (s s' : ByteArray) (h0 : Reads w B 1 A0 lb.length (bs lb)) (h1 : Reads w B 1 A1 (lb ++ r).length (bs (lb ++ r))) (hB : B ≤ w.heap.size)
    (hc0 : lb.length ≤ c0) (hc1 : (lb ++ r).length ≤ c1) (hm1 : c1 ≤ maxLen) (hm : m < 0 ∨ (r.length : Int) ≤ m)
    (htake : ∀ (W : World) (A : Option Addr) (c : Nat), Reads W B 1 A r.length (bs r) → B ≤ W.heap.size → r.length ≤ c → c ≤ maxLen → Calls Try.prog 26 #[.slice A r.length c, .int .i64 1] W (Coded W B (pk k' u' s' x') []))
    (hsame : ∀ W : World, Calls Try.prog 27 #[pk k u s x, pk k' u' s' x'] W fun e w' => e = .returned (.bool true) ∧ Below W.heap.size W w') :
    Calls Try.prog 14 #[.slice A0 lb.length c0, .slice A1 (lb ++ r).length c1, pk k u s x, .int .i64 m] w fun e w' => e = .returned (.bool true) ∧ Below w.heap.size w w' := by
  have hl : (lb ++ r).length = lb.length + r.length := List.length_append
  have hm1' : c1 ≤ 9223372036854775807 := by unfold maxLen at hm1; omega
  have hc1' : lb.length + r.length ≤ c1 := by omega
  have R1 : Reads w B 1 A1 lb.length (bs lb) := by
    have := h1.take1 (k := lb.length) (by omega)
    rwa [bs_take, List.take_left' rfl] at this
  have hR : ∀ A', (A' = if c1 = lb.length then A1 else A1.map (·.add lb.length)) → Reads w B 1 A' r.length (bs r) := fun A' hA' => by
    have := reads_cut (k := lb.length) h1 (by omega) hc1 hA'
    rwa [List.drop_left' rfl] at this
  have HR := Lib.hid hR
  rw [hl]
  have hcv0 : ∀ o n c, (convert 22 9 (.slice A0 lb.length c)).run Try.prog ((w.alloc o).drewN n) = .ok (.string (strOfNums lb)) ((w.alloc o).drewN n) := fun o n c => conv_reads ((h0.alloc hB o).drewN n) _ _ _ Try.underlying22 Try.underlying5 Try.underlying9
  have hcv1 : ∀ o n c, (convert 22 9 (.slice A1 lb.length c)).run Try.prog ((w.alloc o).drewN n) = .ok (.string (strOfNums lb)) ((w.alloc o).drewN n) := fun o n c => conv_reads ((R1.alloc hB o).drewN n) _ _ _ Try.underlying22 Try.underlying5 Try.underlying9
  clear hR R1 h0 h1 hc1 hl
  unfold pk
  have HT : Hid (∀ (W : World) (A : Option Addr) (c : Nat), Reads W B 1 A r.length (bs r) → B ≤ W.heap.size → r.length ≤ c → c ≤ maxLen → Calls Try.prog 26 #[.slice A r.length c, .int .i64 1] W (Coded W B (.agg #[.int .i64 k', .int .u64 u', .string s', .int .i64 x', .slice none 0 0]) [])) := htake
  have HS : Hid (∀ W : World, Calls Try.prog 27 #[.agg #[.int .i64 k, .int .u64 u, .string s, .int .i64 x, .slice none 0 0], .agg #[.int .i64 k', .int .u64 u', .string s', .int .i64 x', .slice none 0 0]] W fun e w' => e = .returned (.bool true) ∧ Below W.heap.size W w') := hsame
  clear htake hsame
  have hd0 : decide (lb.length + r.length < lb.length) = false := by simp
  have hd1 : decide ((lb.length : Int) + (r.length : Int) < (lb.length : Int)) = false := by simp; omega
  by_cases hcc : c1 = lb.length
  all_goals
    by_cases hmm : m < 0
    · have hmd : decide (0 ≤ m) = false := by simp; omega
      go_enter Try.func14, Try.ntmps14
      go_wp2
      go_quiet (fail)
      go_wp2_with (first
        | (go_at_call 26
           go_must (
             (refine (HT.out _ _ _ (((HR.out _ (by first | rw [if_pos hcc] | rw [if_neg hcc])).alloc hB _).drewN nq) (by simp; omega) (by omega) (by omega)).mono ?_)
             rintro e w1 ⟨A', c', rfl, hl', hcm', hr', hbel⟩
             have hsz := hbel.size
             have hblk : Blk w1 w.heap.size 30 _ := Blk.below ((Blk.new w _ [_, _, _, _, _]).drewN nq) hbel (by simp)
             obtain ⟨q0, q1, q2, q3, q4⟩ := blk_cells5 hblk
             have hz : w.heap.size < w1.heap.size := hblk.lt
             clear hblk hsz
             have HBEL : Hid (Below w.heap.size w w1) := (below_drewN ((Below.refl _ w).alloc (Nat.le_refl _) _) nq).trans (hbel.mono (by simp))
             clear hr' hbel))
        | (go_at_call 27
           go_must (
             (refine (HS.out _).mono ?_)
             rintro e w2 ⟨rfl, hbel2⟩
             have HBEL2 := Lib.hid hbel2
             clear hbel2)))
      go_ret
      exact ⟨rfl, (HBEL.out.alloc HBEL.out.size _).trans (HBEL2.out.mono (by have := HBEL.out.size; simp; omega))⟩
    · have hmr : (r.length : Int) ≤ m := by omega
      have hmd : decide (0 ≤ m) = true := by simp; omega
      have hme : decide (m < (lb.length : Int) + (r.length : Int) - (lb.length : Int)) = false := by simp; omega
      clear hm
      go_enter Try.func14, Try.ntmps14
      go_wp2
      go_quiet (fail)
      go_wp2_with (first
        | (go_at_call 26
           go_must (
             (refine (HT.out _ _ _ (((HR.out _ (by first | rw [if_pos hcc] | rw [if_neg hcc])).alloc hB _).drewN nq) (by simp; omega) (by omega) (by omega)).mono ?_)
             rintro e w1 ⟨A', c', rfl, hl', hcm', hr', hbel⟩
             have hsz := hbel.size
             have hblk : Blk w1 w.heap.size 30 _ := Blk.below ((Blk.new w _ [_, _, _, _, _]).drewN nq) hbel (by simp)
             obtain ⟨q0, q1, q2, q3, q4⟩ := blk_cells5 hblk
             have hz : w.heap.size < w1.heap.size := hblk.lt
             clear hblk hsz
             have HBEL : Hid (Below w.heap.size w w1) := (below_drewN ((Below.refl _ w).alloc (Nat.le_refl _) _) nq).trans (hbel.mono (by simp))
             clear hr' hbel))
        | (go_at_call 27
           go_must (
             (refine (HS.out _).mono ?_)
             rintro e w2 ⟨rfl, hbel2⟩
             have HBEL2 := Lib.hid hbel2
             clear hbel2)))
      go_ret
      exact ⟨rfl, (HBEL.out.alloc HBEL.out.size _).trans (HBEL2.out.mono (by have := HBEL.out.size; simp; omega))⟩
end Go.Proofs.Ytgjkbldgpfaemaa
