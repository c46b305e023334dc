/- The reference's reader of JSON: a value, a list of numbers. PRINTED by wip/genje.py. -/
import Derived.Test.YtikpmeedjdddoaaDoorJd
import Derived.Deep.AppendLies
namespace Go.Proofs.YtikpmeedjdddoaaDoor
open Go.RowKit
set_option linter.unusedVariables false

def kdJ (x : Int) : Int := if x < 0 then 2 else 3
/-- A number as a value. -/
def vJ (x : Int) : Value := .agg #[.int .i64 (kdJ x), .int .u64 (IntKind.u64.wrap x), .string ⟨#[]⟩, .int .i64 0, .slice none 0 0]
def z5J : List Value := [.int .i64 0, .int .u64 0, .string ⟨#[]⟩, .int .i64 0, .slice none 0 0]
theorem number_any (w : World) (g : Nat) (s : ByteArray) (T : List Int) (hs : StrJ s T) (x : Int) (h0 : -4294967296 ≤ x) (h1 : x ≤ 4294967295) (pre post : List Int) (c : Int) (hT : T = pre ++ (itoaL x ++ c :: post)) (h : JB w g s (pre.length : Int)) (hc : c = 44 ∨ c = 93) :
    Calls Tryd.prog 33 #[.pointer (some ⟨g, 0, none⟩)] w fun e w' => e = .returned (vJ x) ∧ JB w' g s ((pre.length + (itoaL x).length : Nat) : Int) ∧ w.grownBy w' (some g) := by
  by_cases hx : x < 0
  · have e : itoaL x = 45 :: digs x.natAbs := if_pos hx
    have hk : kdJ x = 2 := if_pos hx
    rw [e] at hT ⊢
    refine (number_neg w g s T hs x.natAbs (by omega) pre post c hT h hc).mono ?_
    rintro e w' ⟨rfl, h2, h3⟩
    refine ⟨?_, ?_, h3⟩
    · unfold vJ
      rw [hk, show -((x.natAbs : Nat) : Int) = x by omega]
    · rw [List.length_cons, ← Nat.add_assoc]; exact h2
  · have e : itoaL x = digs x.toNat := if_neg hx
    have hk : kdJ x = 3 := if_neg hx
    rw [e] at hT ⊢
    refine (number_pos w g s T hs x.toNat (by omega) pre post c hT h hc).mono ?_
    rintro e w' ⟨rfl, h2, h3⟩
    refine ⟨?_, h2, h3⟩
    unfold vJ
    rw [hk, show IntKind.u64.wrap x = x by rw [IntKind.wrap_u64]; omega, show ((x.toNat : Nat) : Int) = x by omega]
theorem itoaL_first (x : Int) : 0 < (itoaL x).length ∧ ((itoaL x).getD 0 0 = 45 ∨ (48 ≤ (itoaL x).getD 0 0 ∧ (itoaL x).getD 0 0 ≤ 57)) := by
  unfold itoaL
  split
  · exact ⟨by simp, .inl rfl⟩
  · have hp := digs_pos x.toNat
    exact ⟨hp, .inr (digs_all x.toNat _ (by simp [List.getD, hp]))⟩

set_option maxHeartbeats 4000000 in
set_option maxRecDepth 100000 in
theorem value_num (w : World) (g lv : Nat) (s : ByteArray) (T : List Int) (hs : StrJ s T) (x : Int) (h0 : -4294967296 ≤ x) (h1 : x ≤ 4294967295) (pre post : List Int) (c : Int) (hT : T = pre ++ (itoaL x ++ c :: post)) (h : JB w g s (pre.length : Int)) (hc : c = 44 ∨ c = 93) (hlv : 1 ≤ lv) (hlv2 : lv ≤ 50) :
    Calls Tryd.prog 21 #[.pointer (some ⟨g, 0, none⟩), .int .i64 lv] w fun e w' => e = .returned (vJ x) ∧ JB w' g s ((pre.length + (itoaL x).length : Nat) : Int) ∧ w.grownBy w' (some g) := by
  obtain ⟨w1, hw1e⟩ : ∃ w1, w1 = w.alloc (.cells #[.int .i64 0, .int .u64 0, .string ⟨#[]⟩, .int .i64 0, .slice none 0 0] 28) := ⟨_, rfl⟩
  have hgw := h.lt
  have HJ1 : Hid (JB w1 g s (pre.length : Int)) := by rw [hw1e]; exact h.alloc _
  have HP1 : Hid (Blk w1 w.heap.size 28 z5J) := by rw [hw1e]; exact Blk.new w _ z5J
  have HG1 : Hid (w.grownBy w1 (some g)) := by rw [hw1e]; exact World.grownBy_alloc _ _ _
  obtain ⟨hil, hif⟩ := itoaL_first x
  have hlt : pre.length < T.length := by rw [hT]; simp only [List.length_append, List.length_cons]; omega
  have hb : T.getD pre.length 0 = (itoaL x).getD 0 0 := by
    have := getD_mid pre (itoaL x) (c :: post) 0 hil
    rw [Nat.add_zero] at this
    rw [hT]; exact this
  obtain ⟨b, hbe⟩ : ∃ b, b = (itoaL x).getD 0 0 := ⟨_, rfl⟩
  rw [← hbe] at hb hif
  have hnb : NoBlank b := by unfold NoBlank; omega
  have hix := hs.index hlt hb
  have hbl := blank_calls w1 g pre.length s T hs HJ1.out (by omega) (fun _ => by rw [hb]; exact hnb)
  have hnum := fun m => number_any (w1.drewN m) g s T hs x h0 h1 pre post c hT (HJ1.out.drewN m) hc
  have hwn := fun m (s0 : ByteArray) (c0 : Int) (hne : b ≠ c0) (p1 : 1 ≤ s0.size) (p2 : s0.size ≤ 10) (p3 : ((s0.data.toList.getD 0 0).toNat : Int) = c0) => word_no (w1.drewN m) g pre.length s s0 T hs (HJ1.out.drewN m) hlt b c0 hb hne p1 p2 p3
  have HWN1 := Lib.hid (fun m => hwn m ⟨#[110, 117, 108, 108]⟩ 110 (by omega) (by decide) (by decide) rfl)
  have HWN2 := Lib.hid (fun m => hwn m ⟨#[116, 114, 117, 101]⟩ 116 (by omega) (by decide) (by decide) rfl)
  have HWN3 := Lib.hid (fun m => hwn m ⟨#[102, 97, 108, 115, 101]⟩ 102 (by omega) (by decide) (by decide) rfl)
  have HNUM := Lib.hid hnum
  have HBL := Lib.hid hbl
  have b1 : (b == 34) = false := by rw [beq_eq_false_iff_ne]; omega
  have b2 : (b == 91) = false := by rw [beq_eq_false_iff_ne]; omega
  have b3 : (b == 123) = false := by rw [beq_eq_false_iff_ne]; omega
  have hss : pre.length < s.size := by have := hs.1; omega
  obtain ⟨k, hk⟩ : ∃ k, k = pre.length := ⟨_, rfl⟩
  rw [← hk] at hix hss HJ1 HNUM ⊢
  have d0 : decide ((s.size : Int) ≤ (k : Int)) = false := decide_eq_false (by omega)
  have dn0 : decide (s.size ≤ k) = false := decide_eq_false (by omega)
  have d1 : decide ((lv : Int) ≤ 0) = false := decide_eq_false (by omega)
  have dl1 : decide (lv = 0) = false := decide_eq_false (by omega)
  have r0 := HJ1.out.cell 0
  have r1 := HJ1.out.cell 1
  have r2 := HJ1.out.cell 2
  simp only [List.getElem?_cons_zero, List.getElem?_cons_succ] at r0 r1 r2
  have HW1 := Lib.hid hw1e
  clear hs hT h hnum hbl hwn hw1e hb hbe hif hnb hlt hil hk hc h0 h1 hss
  go_enter Tryd.func21, Tryd.ntmps21
  go_wp2_with (
    (go_at_call 22)
    go_must (
      rw [← HW1.out]
      (refine HBL.out.mono ?_)
      rintro e w2 ⟨rfl, n1, rfl⟩))
  go_quiet (fail)
  go_wp2
  go_quiet (fail)
  go_wp2_with (first
    | (go_at_call 30
       (first
         | (with_reducible refine (HWN1.out _).mono ?_)
         | (with_reducible refine (HWN2.out _).mono ?_)
         | (with_reducible refine (HWN3.out _).mono ?_))
       rintro e w2 ⟨rfl, n2, rfl⟩)
    | (go_at_call 33
       go_must (
         (refine (HNUM.out _).mono ?_)
         rintro e w3 ⟨rfl, hj3, hg3⟩
         unfold vJ
         have hp3 : Blk w3 w.heap.size 28 z5J := (HP1.out.drewN _).grown hg3 (by intro e; injection e with e; omega)
         obtain ⟨c0, c1, c2, c3, c4⟩ := blk_cells5 hp3
         have fz : ∀ j, w3.frozen? ⟨w.heap.size, j, none⟩ = false := fun j => hp3.frozen j
         have HP3 := Lib.hid hp3
         have HJ3 := Lib.hid hj3
         have HG3 : Hid (w.grownBy w3 (some g)) := grownJ_trans (grownJ_drewN HG1.out _) hg3
         clear hp3 hj3 hg3)))
  (try simp only [Exit.inBlock, Exit.then])
  refine bodyPost_ret (results_cell0 rfl _ rfl (blk_set5 HP3.out _ _ _ _ _) Tryd.underlying28 rfl (by kernel_rfl)) rfl ?_
  exact ⟨rfl, far_set5J HJ3.out (Nat.ne_of_lt hgw) _ _ _ _ _, grownJ_far5 HG3.out (Nat.le_refl _) _ _ _ _ _⟩
end Go.Proofs.YtikpmeedjdddoaaDoor
