/- laws.zzFits1, Handed.data. PRINTED by wip/genip.py. -/
import Derived.Test.YtjjhckbidcdkcaaDoorIo
import Derived.Test.YtjjhckbidcdkcaaDoorHs
import Derived.Test.YtjjhckbidcdkcaaDoorHk
import Derived.Test.YtjjhckbidcdkcaaDoorHl
namespace Go.Proofs.YtjjhckbidcdkcaaDoor
open Go.RowKit
set_option linter.unusedVariables false

theorem nat_of_int500 {m : Nat} (h : (m : Int) ≤ 500) : m ≤ 500 := by omega
theorem len70 {a b : Nat} (h : a ≤ 140000 * b) (h2 : b ≤ 500) : a ≤ 70000000 := by omega
theorem results_tmpQ {fn : Func} {t u v x : Tmp} (h : fn.results = #[.tmp t, .tmp u, .tmp v, .tmp x]) (tmps : Array Value) (P : Program) (w : World) :
    (results fn tmps).run P w = .ok (.tuple #[tmps.getD t undef, tmps.getD u undef, tmps.getD v undef, tmps.getD x undef]) w := by
  simp [results, h]
theorem own_formQ {w : World} {base n : Nat} {e : TypeId} {size : Nat} {v : Value} {xs : List Value} (h : w.ownsRow base e size v n xs) : ∃ A c, v = .slice A n c ∧ n ≤ c ∧ c ≤ maxLen := by
  rcases h.2 with ⟨rfl, rfl⟩ | ⟨g, cap, cur, rfl, _, _, h1, h2, _⟩
  · exact ⟨none, 0, rfl, Nat.le_refl _, by simp [maxLen]⟩
  · exact ⟨_, cap, rfl, h1, h2⟩
theorem zzFits1_calls (W : World) (T : VT) (fo cut : Int) (A : Bool → Option Addr) (c : Bool → Nat) (Ab : Option Addr) (cb : Nat) (bl : List Int) :
    Calls Tryd.prog 9 #[.agg #[.int .i64 T.k, .int .u64 T.u, .string T.s, .slice (A false) (T.n false) (c false), .int .i64 T.o, .slice (A true) (T.n true) (c true), .int .u64 fo, .slice Ab bl.length cb, .int .i64 cut]] W fun e W' => e = .returned (.bool (decide (bl.length ≤ 2147483647))) ∧ Below W.heap.size W W' := by
  by_cases h : bl.length ≤ 2147483647
  · have hd : decide ((2147483647 : Int) < (bl.length : Int)) = false := decide_eq_false (by omega)
    go_enter Tryd.func9, Tryd.ntmps9
    go_wp2
    go_ret
    exact ⟨by rw [decide_eq_true h]; rfl, (Below.refl _ _).alloc (Nat.le_refl _) _⟩
  · have hd : decide ((2147483647 : Int) < (bl.length : Int)) = true := decide_eq_true (by omega)
    go_enter Tryd.func9, Tryd.ntmps9
    go_wp2
    go_ret
    exact ⟨by rw [decide_eq_false h]; rfl, (Below.refl _ _).alloc (Nat.le_refl _) _⟩
/-- What is handed on: nothing; what is written, cut off; or whole, with what stands behind it. -/
def DatV (T : VT) (bl : List Int) (cut : Int) (Ab : Option Addr) (cb : Nat) (w : World) (e : Ending) (w' : World) : Prop :=
  Below w.heap.size w w' ∧ (e = .returned (.tuple #[.slice none 0 0, .slice none 0 0, .bool false, .bool false]) ∨
    ((FitsV T ∧ T.cnt ≤ 500 ∧ T.n true = 0 ∧ ETf T) ∧ bl.length ≤ 100 ∧ ∃ enc, FPV T enc ∧
      ((0 < cut ∧ ∃ A c m, m < enc.length ∧ e = .returned (.tuple #[.slice A m c, .slice none 0 0, .bool true, .bool true]) ∧ m ≤ c ∧ c ≤ maxLen ∧ Reads w' w'.heap.size 1 A m (bs (enc.take m))) ∨
       (cut ≤ 0 ∧ ∃ A c, e = .returned (.tuple #[.slice A (enc ++ bl).length c, .slice Ab bl.length cb, .bool false, .bool true]) ∧ (enc ++ bl).length ≤ c ∧ c ≤ maxLen ∧ Reads w' w'.heap.size 1 A (enc ++ bl).length (bs (enc ++ bl))))))
set_option maxHeartbeats 1600000 in
set_option maxRecDepth 100000 in
theorem data_calls (B : Nat) (T : VT) (W : World) (fo cut : Int) (A : Bool → Option Addr) (Ab : Option Addr) (c : Bool → Nat) (cb : Nat) (bl : List Int) (h : TV W B T A c) (hB : B ≤ W.heap.size) (hU : UT B W) (hbl : Reads W W.heap.size 1 Ab bl.length (bs bl)) (hbc : bl.length ≤ cb) (hbm : cb ≤ maxLen) :
    Calls Tryd.prog 11 #[.agg #[.int .i64 T.k, .int .u64 T.u, .string T.s, .slice (A false) (T.n false) (c false), .int .i64 T.o, .slice (A true) (T.n true) (c true), .int .u64 fo, .slice Ab bl.length cb, .int .i64 cut]] W (DatV T bl cut Ab cb W) := by
  obtain ⟨i0, hi0, hz0, hz1, hz2⟩ := info_parts infoU8
  have hnm : T.n true ≤ 9223372036854775807 := by
    cases T with
    | nil => exact h.elim
    | mk k u s o n f =>
      have h1 := (h.open_.2 true).1
      have h2 := (h.open_.2 true).2.1
      simp only [VT.n] at h1 ⊢
      simp only [maxLen] at h2
      omega
  obtain ⟨n1, hn1⟩ : ∃ n1, T.n true = n1 := ⟨_, rfl⟩
  rw [hn1] at hnm ⊢
  have HN1 := Lib.hid hn1
  clear hn1
  obtain ⟨w1, hw1⟩ : ∃ w1, w1 = W.alloc (.cells #[.int .i64 T.k, .int .u64 T.u, .string T.s, .slice (A false) (T.n false) (c false), .int .i64 T.o, .slice (A true) n1 (c true), .int .u64 fo, .slice Ab bl.length cb, .int .i64 cut] 28) := ⟨_, rfl⟩
  have hz : w1.heap.size = W.heap.size + 1 := by rw [hw1]; simp
  have hp1 : Blk w1 W.heap.size 28 [.int .i64 T.k, .int .u64 T.u, .string T.s, .slice (A false) (T.n false) (c false), .int .i64 T.o, .slice (A true) n1 (c true), .int .u64 fo, .slice Ab bl.length cb, .int .i64 cut] := by rw [hw1]; exact Blk.new W _ [_, _, _, _, _, _, _, _, _]
  have hbel : Below W.heap.size W w1 := by rw [hw1]; exact (Below.refl _ W).alloc (Nat.le_refl _) _
  have hbm2 : bl.length ≤ 9223372036854775807 := by simp only [maxLen] at hbm; omega
  have ht1 : TV w1 B T A c := TV.below (hbel.mono hB) _ _ _ h
  have hvf := ValueFits_calls B T w1 A c 6 ht1 (by omega) (hU.below (hbel.mono hB)) (by omega) (by omega)
  unfold vV at hvf
  rw [HN1.out] at hvf
  rw [hw1] at hvf
  have g0 := hp1.cell 0
  have g1 := hp1.cell 1
  have g2 := hp1.cell 2
  have g3 := hp1.cell 3
  have g4 := hp1.cell 4
  have g5 := hp1.cell 5
  have g6 := hp1.cell 6
  have g7 := hp1.cell 7
  have g8 := hp1.cell 8
  simp only [List.getElem?_cons_zero, List.getElem?_cons_succ] at g0 g1 g2 g3 g4 g5 g6 g7 g8
  rw [hw1] at g0 g1 g2 g3 g4 g5 g6 g7 g8
  have HVF := Lib.hid hvf
  have HW1 := Lib.hid hw1
  have HP1 := Lib.hid hp1
  have HBEL := Lib.hid hbel
  have HT := Lib.hid h
  have HBL := Lib.hid hbl
  have HZ := Lib.hid hz
  clear hvf hw1 hp1 hbel h hbl hz ht1 hU
  by_cases hn100 : 100 < bl.length
  · have hd100 : decide ((100 : Int) < (bl.length : Int)) = true := decide_eq_true (by omega)
    go_enter Tryd.func11, Tryd.ntmps11
    go_wp2_with (first
      | (go_at_call 33
         go_must (
           (refine HVF.out.mono ?_)
           rintro e w2 ⟨b, rfl, hf2, hb2⟩
           rw [← HW1.out] at hb2
           have hp2 := HP1.out.below hb2 HP1.out.lt
           have m0 := hp2.cell 0
           have m1 := hp2.cell 1
           have m2 := hp2.cell 2
           have m3 := hp2.cell 3
           have m4 := hp2.cell 4
           have m5 := hp2.cell 5
           have m6 := hp2.cell 6
           have m7 := hp2.cell 7
           have m8 := hp2.cell 8
           simp only [List.getElem?_cons_zero, List.getElem?_cons_succ] at m0 m1 m2 m3 m4 m5 m6 m7 m8
           have HF2 := Lib.hid hf2
           have HP2 := Lib.hid hp2
           have HB2 : Hid (Below W.heap.size W w2) := HBEL.out.trans (hb2.mono (by have := HZ.out; omega))
           clear hf2 hb2 hp2 g0 g1 g2 g3 g4 g5 g6 g7 g8))
      | (go_at_call 34
         go_must (
           (have hbt : b = true := by first | assumption | (have hx : (!b) = false := by assumption
                                                            simpa using hx))
           obtain ⟨hfit, hct⟩ := HF2.out hbt
           have hpk := values_calls B T w2 A c (TV.below (HB2.out.mono hB) _ _ _ HT.out) (Nat.le_trans hB HB2.out.size) hct
           unfold vV at hpk
           rw [HN1.out] at hpk
           refine hpk.mono ?_
           rintro e w3 ⟨rfl, hb3⟩
           have hp3 := HP2.out.below hb3 HP2.out.lt
           have k0 := hp3.cell 0
           have k1 := hp3.cell 1
           have k2 := hp3.cell 2
           have k3 := hp3.cell 3
           have k4 := hp3.cell 4
           have k5 := hp3.cell 5
           have k6 := hp3.cell 6
           have k7 := hp3.cell 7
           have k8 := hp3.cell 8
           simp only [List.getElem?_cons_zero, List.getElem?_cons_succ] at k0 k1 k2 k3 k4 k5 k6 k7 k8
           have HFIT := Lib.hid hfit
           have HP3 := Lib.hid hp3
           have HB3 : Hid (Below W.heap.size W w3) := HB2.out.trans (hb3.mono HB2.out.size)
           clear hpk hb3 hp3 hfit m0 m1 m2 m3 m4 m5 m6 m7 m8)))
    all_goals first
      | (((try simp only [Exit.inBlock, Exit.then]); refine bodyPost_ret (results_tmpQ rfl _ _ _) rfl ?_)
         exact ⟨HB2.out, .inl rfl⟩)
      | (((try simp only [Exit.inBlock, Exit.then]); refine bodyPost_ret (results_tmpQ rfl _ _ _) rfl ?_)
         exact ⟨HB3.out, .inl rfl⟩)
      | (((try simp only [Exit.inBlock, Exit.then]); refine bodyPost_ret (results_tmpQ rfl _ _ _) rfl ?_)
         exact ⟨HB4.out, .inl rfl⟩)
  have hd100 : decide ((100 : Int) < (bl.length : Int)) = false := decide_eq_false (by omega)
  by_cases hnp : 0 < n1
  · have hd1 : decide ((0 : Int) < (n1 : Int)) = true := decide_eq_true (by omega)
    have hd1' : decide (0 < n1) = true := decide_eq_true hnp
    clear hnp
    go_enter Tryd.func11, Tryd.ntmps11
    go_wp2_with (first
      | (go_at_call 33
         go_must (
           (refine HVF.out.mono ?_)
           rintro e w2 ⟨b, rfl, hf2, hb2⟩
           rw [← HW1.out] at hb2
           have hp2 := HP1.out.below hb2 HP1.out.lt
           have m0 := hp2.cell 0
           have m1 := hp2.cell 1
           have m2 := hp2.cell 2
           have m3 := hp2.cell 3
           have m4 := hp2.cell 4
           have m5 := hp2.cell 5
           have m6 := hp2.cell 6
           have m7 := hp2.cell 7
           have m8 := hp2.cell 8
           simp only [List.getElem?_cons_zero, List.getElem?_cons_succ] at m0 m1 m2 m3 m4 m5 m6 m7 m8
           have HF2 := Lib.hid hf2
           have HP2 := Lib.hid hp2
           have HB2 : Hid (Below W.heap.size W w2) := HBEL.out.trans (hb2.mono (by have := HZ.out; omega))
           clear hf2 hb2 hp2 g0 g1 g2 g3 g4 g5 g6 g7 g8))
      | (go_at_call 34
         go_must (
           (have hbt : b = true := by first | assumption | (have hx : (!b) = false := by assumption
                                                            simpa using hx))
           obtain ⟨hfit, hct⟩ := HF2.out hbt
           have hpk := values_calls B T w2 A c (TV.below (HB2.out.mono hB) _ _ _ HT.out) (Nat.le_trans hB HB2.out.size) hct
           unfold vV at hpk
           rw [HN1.out] at hpk
           refine hpk.mono ?_
           rintro e w3 ⟨rfl, hb3⟩
           have hp3 := HP2.out.below hb3 HP2.out.lt
           have k0 := hp3.cell 0
           have k1 := hp3.cell 1
           have k2 := hp3.cell 2
           have k3 := hp3.cell 3
           have k4 := hp3.cell 4
           have k5 := hp3.cell 5
           have k6 := hp3.cell 6
           have k7 := hp3.cell 7
           have k8 := hp3.cell 8
           simp only [List.getElem?_cons_zero, List.getElem?_cons_succ] at k0 k1 k2 k3 k4 k5 k6 k7 k8
           have HFIT := Lib.hid hfit
           have HP3 := Lib.hid hp3
           have HB3 : Hid (Below W.heap.size W w3) := HB2.out.trans (hb3.mono HB2.out.size)
           clear hpk hb3 hp3 hfit m0 m1 m2 m3 m4 m5 m6 m7 m8)))
    all_goals first
      | (((try simp only [Exit.inBlock, Exit.then]); refine bodyPost_ret (results_tmpQ rfl _ _ _) rfl ?_)
         exact ⟨HB2.out, .inl rfl⟩)
      | (((try simp only [Exit.inBlock, Exit.then]); refine bodyPost_ret (results_tmpQ rfl _ _ _) rfl ?_)
         exact ⟨HB3.out, .inl rfl⟩)
      | (((try simp only [Exit.inBlock, Exit.then]); refine bodyPost_ret (results_tmpQ rfl _ _ _) rfl ?_)
         exact ⟨HB4.out, .inl rfl⟩)
  have hd1 : decide ((0 : Int) < (n1 : Int)) = false := decide_eq_false (by omega)
  have hd1' : decide (0 < n1) = false := decide_eq_false hnp
  have HNP := Lib.hid hnp
  clear hnp
  by_cases hcut : 0 < cut
  · skip
    go_enter Tryd.func11, Tryd.ntmps11
    go_wp2_with (first
      | (go_at_call 33
         go_must (
           (refine HVF.out.mono ?_)
           rintro e w2 ⟨b, rfl, hf2, hb2⟩
           rw [← HW1.out] at hb2
           have hp2 := HP1.out.below hb2 HP1.out.lt
           have m0 := hp2.cell 0
           have m1 := hp2.cell 1
           have m2 := hp2.cell 2
           have m3 := hp2.cell 3
           have m4 := hp2.cell 4
           have m5 := hp2.cell 5
           have m6 := hp2.cell 6
           have m7 := hp2.cell 7
           have m8 := hp2.cell 8
           simp only [List.getElem?_cons_zero, List.getElem?_cons_succ] at m0 m1 m2 m3 m4 m5 m6 m7 m8
           have HF2 := Lib.hid hf2
           have HP2 := Lib.hid hp2
           have HB2 : Hid (Below W.heap.size W w2) := HBEL.out.trans (hb2.mono (by have := HZ.out; omega))
           clear hf2 hb2 hp2 g0 g1 g2 g3 g4 g5 g6 g7 g8))
      | (go_at_call 34
         go_must (
           (have hbt : b = true := by first | assumption | (have hx : (!b) = false := by assumption
                                                            simpa using hx))
           obtain ⟨hfit, hct⟩ := HF2.out hbt
           have hpk := values_calls B T w2 A c (TV.below (HB2.out.mono hB) _ _ _ HT.out) (Nat.le_trans hB HB2.out.size) hct
           unfold vV at hpk
           rw [HN1.out] at hpk
           refine hpk.mono ?_
           rintro e w3 ⟨rfl, hb3⟩
           have hp3 := HP2.out.below hb3 HP2.out.lt
           have k0 := hp3.cell 0
           have k1 := hp3.cell 1
           have k2 := hp3.cell 2
           have k3 := hp3.cell 3
           have k4 := hp3.cell 4
           have k5 := hp3.cell 5
           have k6 := hp3.cell 6
           have k7 := hp3.cell 7
           have k8 := hp3.cell 8
           simp only [List.getElem?_cons_zero, List.getElem?_cons_succ] at k0 k1 k2 k3 k4 k5 k6 k7 k8
           have HFIT := Lib.hid hfit
           have HP3 := Lib.hid hp3
           have HB3 : Hid (Below W.heap.size W w3) := HB2.out.trans (hb3.mono HB2.out.size)
           clear hpk hb3 hp3 hfit m0 m1 m2 m3 m4 m5 m6 m7 m8))
      | (go_at_call 35
         go_must (
           (have hpk := emptyTexts_calls B T w3 A c (TV.below (HB3.out.mono hB) _ _ _ HT.out) (Nat.le_trans hB HB3.out.size))
           unfold vV at hpk
           rw [HN1.out] at hpk
           refine hpk.mono ?_
           rintro e w4 ⟨b4, rfl, hf4, hb4⟩
           have hp4 := HP3.out.below hb4 HP3.out.lt
           have l0 := hp4.cell 0
           have l1 := hp4.cell 1
           have l2 := hp4.cell 2
           have l3 := hp4.cell 3
           have l4 := hp4.cell 4
           have l5 := hp4.cell 5
           have l6 := hp4.cell 6
           have l7 := hp4.cell 7
           have l8 := hp4.cell 8
           simp only [List.getElem?_cons_zero, List.getElem?_cons_succ] at l0 l1 l2 l3 l4 l5 l6 l7 l8
           have HF4 := Lib.hid hf4
           have HP4 := Lib.hid hp4
           have HB4 : Hid (Below W.heap.size W w4) := HB3.out.trans (hb4.mono HB3.out.size)
           clear hpk hb4 hp4 hf4 k0 k1 k2 k3 k4 k5 k6 k7 k8))
      | (go_at_call 36
         go_must (
           (have hbt4 : b4 = false := (show (T.cnt : Int) ≤ 500 ∧ b4 = false by assumption).2)
           have het := HF4.out hbt4
           have hzw : W.heap.size ≤ w4.heap.size := HB4.out.size
           have hbel5 : Below W.heap.size W (w4.alloc (.cells #[.int .u64 fo, .bool false] 77)) := HB4.out.alloc hzw _
           have hc5 : T.cnt ≤ 500 := nat_of_int500 (by assumption)
           have hpp := putValue_calls B w4.heap.size false (Nat.le_trans hB hzw) T HFIT.out hc5 (w4.alloc (.cells #[.int .u64 fo, .bool false] 77)) fo A c (TV.below (hbel5.mono hB) _ _ _ HT.out) (Nat.le_trans hB hbel5.size) (Blk.new w4 _ [_, _])
           unfold vV at hpp
           rw [HN1.out] at hpp
           refine hpp.mono ?_
           rintro e w5 ⟨enc, A5, c5, st5, rfl, hf5, hown5, hb5, hg5⟩
           have hp5 := (HP4.out.alloc (.cells #[.int .u64 fo, .bool false] 77)).grown hg5 (fun e => (HP4.out.alloc (.cells #[.int .u64 fo, .bool false] 77)).ne_ (Blk.new w4 77 [.int .u64 fo, .bool false]) (by decide) (by injection e))
           have j7 := hp5.cell 7
           have j8 := hp5.cell 8
           simp only [List.getElem?_cons_zero, List.getElem?_cons_succ] at j7 j8
           have hbel6 : Below W.heap.size W w5 := hbel5.grown hg5 hbel5.size (fun j hj => by injection hj with hj; omega)
           have hlow := own_lowerH (B' := W.heap.size) hown5 hbel5.size
           have hl0 : enc.length ≠ 0 := fun h => hf5.2.1 (List.eq_nil_of_length_eq_zero h)
           have hl1 := hf5.2.2.1
           have hl2 : enc.length ≤ 70000000 := len70 hl1 hc5
           obtain ⟨A9, c9, hv9, hc9, hm9⟩ := own_formQ hown5
           injection hv9 with ev1 ev2 ev3
           subst ev1
           subst ev3
           obtain ⟨N5, hN5⟩ : ∃ N5, N5 = enc.length := ⟨_, rfl⟩
           rw [← hN5] at hlow hl0 hl2 hc9 ⊢
           obtain ⟨mn, hmn⟩ : ∃ mn : Nat, min cut (N5 : Int) = (mn : Int) := ⟨(min cut (N5 : Int)).toNat, by omega⟩
           have hmn0 : 1 ≤ mn := by omega
           have hmn1 : mn ≤ N5 := by omega
           have hsb0 : (0 : Int) ≤ (N5 : Int) - (mn : Int) := by omega
           have hsb1 : (N5 : Int) - (mn : Int) ≤ (c5 : Int) := by omega
           have hsb2 : ((N5 : Int) - (mn : Int)).toNat = N5 - mn := by omega
           have HFX := Lib.hid (And.intro HFIT.out (And.intro hc5 (And.intro (show T.n true = 0 by rw [HN1.out]; exact Nat.eq_zero_of_not_pos HNP.out) het)))
           have HF5 := Lib.hid hf5
           have HN5 := Lib.hid hN5
           have HO5 := Lib.hid hlow
           have HP5 := Lib.hid hp5
           have HB5 := Lib.hid hbel6
           clear hpp hbel5 hf5 hown5 hb5 hg5 hp5 hbel6 hlow hl1 hN5 het hc5 l0 l1 l2 l3 l4 l5 l6 l7 l8)))
    all_goals first
      | (((try simp only [Exit.inBlock, Exit.then]); refine bodyPost_ret (results_tmpQ rfl _ _ _) rfl ?_)
         exact ⟨HB2.out, .inl rfl⟩)
      | (((try simp only [Exit.inBlock, Exit.then]); refine bodyPost_ret (results_tmpQ rfl _ _ _) rfl ?_)
         exact ⟨HB3.out, .inl rfl⟩)
      | (((try simp only [Exit.inBlock, Exit.then]); refine bodyPost_ret (results_tmpQ rfl _ _ _) rfl ?_)
         exact ⟨HB4.out, .inl rfl⟩)
      | (((try simp only [Exit.inBlock, Exit.then]); refine bodyPost_ret (results_tmpQ rfl _ _ _) rfl ?_)
         refine ⟨HB5.out, .inr ⟨HFX.out, by omega, enc, HF5.out, .inl ⟨hcut, A5, c5, N5 - mn, by have := HN5.out; omega, rfl, by omega, hm9, ?_⟩⟩⟩
         have hr := (Reads.of_own HO5.out).take1 (show N5 - mn ≤ N5 by omega)
         rw [bs_take] at hr
         exact hr)
      | (((try simp only [Exit.inBlock, Exit.then]); refine bodyPost_ret (results_tmpQ rfl _ _ _) rfl ?_)
         refine ⟨HB5.out, .inr ⟨HFX.out, by omega, enc, HF5.out, .inl ⟨hcut, A5, c5, 0, by have := HN5.out; omega, rfl, by omega, hm9, ?_⟩⟩⟩
         have hr := (Reads.of_own HO5.out).take1 (show 0 ≤ N5 by omega)
         rw [bs_take] at hr
         exact hr)
      | (((try simp only [Exit.inBlock, Exit.then]); refine bodyPost_ret (results_tmpQ rfl _ _ _) rfl ?_)
         refine ⟨HB5.out, .inr ⟨HFX.out, by omega, enc, HF5.out, .inl ⟨hcut, A5, c5, ((N5 : Int) - cut).toNat, by have := HN5.out; omega, rfl, by omega, hm9, ?_⟩⟩⟩
         have hr := (Reads.of_own HO5.out).take1 (show ((N5 : Int) - cut).toNat ≤ N5 by omega)
         rw [bs_take] at hr
         exact hr)
  · have hcd : decide (0 < cut) = false := decide_eq_false hcut
    go_enter Tryd.func11, Tryd.ntmps11
    go_wp2_with (first
      | (go_at_call 33
         go_must (
           (refine HVF.out.mono ?_)
           rintro e w2 ⟨b, rfl, hf2, hb2⟩
           rw [← HW1.out] at hb2
           have hp2 := HP1.out.below hb2 HP1.out.lt
           have m0 := hp2.cell 0
           have m1 := hp2.cell 1
           have m2 := hp2.cell 2
           have m3 := hp2.cell 3
           have m4 := hp2.cell 4
           have m5 := hp2.cell 5
           have m6 := hp2.cell 6
           have m7 := hp2.cell 7
           have m8 := hp2.cell 8
           simp only [List.getElem?_cons_zero, List.getElem?_cons_succ] at m0 m1 m2 m3 m4 m5 m6 m7 m8
           have HF2 := Lib.hid hf2
           have HP2 := Lib.hid hp2
           have HB2 : Hid (Below W.heap.size W w2) := HBEL.out.trans (hb2.mono (by have := HZ.out; omega))
           clear hf2 hb2 hp2 g0 g1 g2 g3 g4 g5 g6 g7 g8))
      | (go_at_call 34
         go_must (
           (have hbt : b = true := by first | assumption | (have hx : (!b) = false := by assumption
                                                            simpa using hx))
           obtain ⟨hfit, hct⟩ := HF2.out hbt
           have hpk := values_calls B T w2 A c (TV.below (HB2.out.mono hB) _ _ _ HT.out) (Nat.le_trans hB HB2.out.size) hct
           unfold vV at hpk
           rw [HN1.out] at hpk
           refine hpk.mono ?_
           rintro e w3 ⟨rfl, hb3⟩
           have hp3 := HP2.out.below hb3 HP2.out.lt
           have k0 := hp3.cell 0
           have k1 := hp3.cell 1
           have k2 := hp3.cell 2
           have k3 := hp3.cell 3
           have k4 := hp3.cell 4
           have k5 := hp3.cell 5
           have k6 := hp3.cell 6
           have k7 := hp3.cell 7
           have k8 := hp3.cell 8
           simp only [List.getElem?_cons_zero, List.getElem?_cons_succ] at k0 k1 k2 k3 k4 k5 k6 k7 k8
           have HFIT := Lib.hid hfit
           have HP3 := Lib.hid hp3
           have HB3 : Hid (Below W.heap.size W w3) := HB2.out.trans (hb3.mono HB2.out.size)
           clear hpk hb3 hp3 hfit m0 m1 m2 m3 m4 m5 m6 m7 m8))
      | (go_at_call 35
         go_must (
           (have hpk := emptyTexts_calls B T w3 A c (TV.below (HB3.out.mono hB) _ _ _ HT.out) (Nat.le_trans hB HB3.out.size))
           unfold vV at hpk
           rw [HN1.out] at hpk
           refine hpk.mono ?_
           rintro e w4 ⟨b4, rfl, hf4, hb4⟩
           have hp4 := HP3.out.below hb4 HP3.out.lt
           have l0 := hp4.cell 0
           have l1 := hp4.cell 1
           have l2 := hp4.cell 2
           have l3 := hp4.cell 3
           have l4 := hp4.cell 4
           have l5 := hp4.cell 5
           have l6 := hp4.cell 6
           have l7 := hp4.cell 7
           have l8 := hp4.cell 8
           simp only [List.getElem?_cons_zero, List.getElem?_cons_succ] at l0 l1 l2 l3 l4 l5 l6 l7 l8
           have HF4 := Lib.hid hf4
           have HP4 := Lib.hid hp4
           have HB4 : Hid (Below W.heap.size W w4) := HB3.out.trans (hb4.mono HB3.out.size)
           clear hpk hb4 hp4 hf4 k0 k1 k2 k3 k4 k5 k6 k7 k8))
      | (go_at_call 36
         go_must (
           (have hbt4 : b4 = false := (show (T.cnt : Int) ≤ 500 ∧ b4 = false by assumption).2)
           have het := HF4.out hbt4
           have hzw : W.heap.size ≤ w4.heap.size := HB4.out.size
           have hbel5 : Below W.heap.size W (w4.alloc (.cells #[.int .u64 fo, .bool false] 77)) := HB4.out.alloc hzw _
           have hc5 : T.cnt ≤ 500 := nat_of_int500 (by assumption)
           have hpp := putValue_calls B w4.heap.size false (Nat.le_trans hB hzw) T HFIT.out hc5 (w4.alloc (.cells #[.int .u64 fo, .bool false] 77)) fo A c (TV.below (hbel5.mono hB) _ _ _ HT.out) (Nat.le_trans hB hbel5.size) (Blk.new w4 _ [_, _])
           unfold vV at hpp
           rw [HN1.out] at hpp
           refine hpp.mono ?_
           rintro e w5 ⟨enc, A5, c5, st5, rfl, hf5, hown5, hb5, hg5⟩
           have hp5 := (HP4.out.alloc (.cells #[.int .u64 fo, .bool false] 77)).grown hg5 (fun e => (HP4.out.alloc (.cells #[.int .u64 fo, .bool false] 77)).ne_ (Blk.new w4 77 [.int .u64 fo, .bool false]) (by decide) (by injection e))
           have j7 := hp5.cell 7
           have j8 := hp5.cell 8
           simp only [List.getElem?_cons_zero, List.getElem?_cons_succ] at j7 j8
           have hbel6 : Below W.heap.size W w5 := hbel5.grown hg5 hbel5.size (fun j hj => by injection hj with hj; omega)
           have hlow := own_lowerH (B' := W.heap.size) hown5 hbel5.size
           have hl0 : enc.length ≠ 0 := fun h => hf5.2.1 (List.eq_nil_of_length_eq_zero h)
           have hl1 := hf5.2.2.1
           have hl2 : enc.length ≤ 70000000 := len70 hl1 hc5
           obtain ⟨A9, c9, hv9, hc9, hm9⟩ := own_formQ hown5
           injection hv9 with ev1 ev2 ev3
           subst ev1
           subst ev3
           obtain ⟨N5, hN5⟩ : ∃ N5, N5 = enc.length := ⟨_, rfl⟩
           rw [← hN5] at hlow hl0 hl2 hc9 ⊢
           have HFX := Lib.hid (And.intro HFIT.out (And.intro hc5 (And.intro (show T.n true = 0 by rw [HN1.out]; exact Nat.eq_zero_of_not_pos HNP.out) het)))
           have HF5 := Lib.hid hf5
           have HN5 := Lib.hid hN5
           have HO5 := Lib.hid hlow
           have HP5 := Lib.hid hp5
           have HB5 := Lib.hid hbel6
           clear hpp hbel5 hf5 hown5 hb5 hg5 hp5 hbel6 hlow hl1 hN5 het hc5 l0 l1 l2 l3 l4 l5 l6 l7 l8))
      | (go_region_held3 (fun W' => W'.cell? ⟨W.heap.size, 7, none⟩ = some (.slice Ab bl.length cb)) (first | assumption | go_keep) (first
          | (refine step_append_B (B := W.heap.size) rfl (.tmp 54) (.tmp 56) rfl rfl rfl rfl HO5.out (((HBL.out.below HB5.out).more HB5.out.size).drewN 1) HB5.out.size (by omega) ?_
             intro A6 c6 w6 HO6 HG6
             have q7 : w6.cell? ⟨W.heap.size, 7, none⟩ = some (.slice Ab bl.length cb) := (HP5.out.grown (w := w5) ⟨HG6.out.os, HG6.out.tape, HG6.out.output, HG6.out.size, HG6.out.block⟩ (fun e => own_neH HO5.out HP5.out (by decide) e.symm)).cell 7
             have hlo : ∀ j, (Value.slice A5 N5 c5).ownBlock = some j → W.heap.size ≤ j := fun j hj => (HO5.out.lt j hj).1
             have HB6 : Hid (Below W.heap.size W w6) := HB5.out.grown (w' := w6) ⟨HG6.out.os, HG6.out.tape, HG6.out.output, HG6.out.size, HG6.out.block⟩ HB5.out.size hlo
             clear hlo
             clear j7 j8))))
    all_goals first
      | (((try simp only [Exit.inBlock, Exit.then]); refine bodyPost_ret (results_tmpQ rfl _ _ _) rfl ?_)
         exact ⟨HB2.out, .inl rfl⟩)
      | (((try simp only [Exit.inBlock, Exit.then]); refine bodyPost_ret (results_tmpQ rfl _ _ _) rfl ?_)
         exact ⟨HB3.out, .inl rfl⟩)
      | (((try simp only [Exit.inBlock, Exit.then]); refine bodyPost_ret (results_tmpQ rfl _ _ _) rfl ?_)
         exact ⟨HB4.out, .inl rfl⟩)
      | (((try simp only [Exit.inBlock, Exit.then]); refine bodyPost_ret (results_tmpQ rfl _ _ _) rfl ?_)
         obtain ⟨A10, c10, hv10, hc10, hm10⟩ := own_formQ HO6.out
         injection hv10 with ev1 ev2 ev3
         subst ev1
         subst ev3
         have hlen : (enc ++ bl).length = N5 + bl.length := by rw [List.length_append, ← HN5.out]
         refine ⟨HB6.out, .inr ⟨HFX.out, by omega, enc, HF5.out, .inr ⟨by omega, A6, c6, ?_, ?_, hm10, ?_⟩⟩⟩
         · rw [hlen]; rfl
         · rw [hlen]; exact hc10
         · have hr := Reads.of_own HO6.out
           rw [hlen]
           exact hr)
end Go.Proofs.YtjjhckbidcdkcaaDoor
