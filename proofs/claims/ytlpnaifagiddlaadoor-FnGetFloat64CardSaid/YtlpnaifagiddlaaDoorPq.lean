/- laws.zzFits16, Given.data. PRINTED by wip/genpq.py. -/
import Derived.Test.YtlpnaifagiddlaaDoorPo
namespace Go.Proofs.YtlpnaifagiddlaaDoor
open Go.RowKit
set_option linter.unusedVariables false

theorem results_tmpQ {fn : Func} {t u v x : Tmp} (h : fn.results = #[.tmp t, .tmp u, .tmp v, .tmp x]) (tmps : Array Value) (P : Program) (w : World) :
    (results fn tmps).run P w = .ok (.tuple #[tmps.getD t undef, tmps.getD u undef, tmps.getD v undef, tmps.getD x undef]) w := by
  simp [results, h]
theorem own_formQ {w : World} {base n : Nat} {e : TypeId} {size : Nat} {v : Value} {xs : List Value} (h : w.ownsRow base e size v n xs) : ∃ A c, v = .slice A n c ∧ n ≤ c ∧ c ≤ maxLen := by
  rcases h.2 with ⟨rfl, rfl⟩ | ⟨g, cap, cur, rfl, _, _, h1, h2, _⟩
  · exact ⟨none, 0, rfl, Nat.le_refl _, by simp [maxLen]⟩
  · exact ⟨_, cap, rfl, h1, h2⟩
theorem zzFits16_calls (W : World) (k u fo x cut : Int) (s : ByteArray) (A Ab : Option Addr) (n c nb cb : Nat) (sh : Bool) :
    Calls Tryd.prog 9 #[.agg #[.int .i64 k, .int .u64 u, .string s, .int .i64 x, .slice A n c, .int .u64 fo, .bool sh, .slice Ab nb cb, .int .i64 cut]] W fun e W' => e = .returned (.bool (decide (nb ≤ 2147483647))) ∧ Below W.heap.size W W' := by
  by_cases h : nb ≤ 2147483647
  · have hd : decide ((2147483647 : Int) < (nb : Int)) = false := decide_eq_false (by omega)
    go_enter Tryd.func9, Tryd.ntmps9
    go_wp2
    go_ret
    exact ⟨by rw [decide_eq_true h]; rfl, (Below.refl _ _).alloc (Nat.le_refl _) _⟩
  · have hd : decide ((2147483647 : Int) < (nb : Int)) = true := decide_eq_true (by omega)
    go_enter Tryd.func9, Tryd.ntmps9
    go_wp2
    go_ret
    exact ⟨by rw [decide_eq_false h]; rfl, (Below.refl _ _).alloc (Nat.le_refl _) _⟩
/-- 'append(x, y...)', x of the call's own. -/
theorem step_append_src {w : World} {B n m c c2 : Nat} {A A2 : Option Addr} {l l2 : List Int} {ops : Array Oper} {o : Oper} {a : Act} {K : Act → World → Prop} {Q : Exit → Act → World → Prop} {E : Prop} (hgd : o.guard = none) (x y : Operand)
    (ho : o.op = .call { callee := .builtin .append, args := #[x, y], argTypes := #[26, 26] }) (hs : a.eval x = .slice A n c) (hx : a.eval y = .slice A2 m c2)
    (hown : w.ownsRow B 5 1 (.slice A n c) n (bs l)) (hr : Reads w w.heap.size 1 A2 m (bs l2)) (hB : B ≤ w.heap.size) (hn : n + m ≤ 100000000)
    (h : ∀ A' c' w', Hid (w'.ownsRow B 5 1 (.slice A' (n + m) c') (n + m) (bs (l ++ l2))) → Hid (w.grownBy w' (Value.slice A n c).ownBlock) → K (a.put o.dst (.slice A' (n + m) c')) w') :
    if Region.wanted o (yielded ops a.tmps) = true then Oper.wp Tryd.prog o a w K Q else E := by
  have hwd : Region.wanted o (yielded ops a.tmps) = true := by simp [Region.wanted, hgd]
  rw [if_pos hwd]
  obtain ⟨i0, hi0, hz0, hz1, hz2⟩ := info_parts infoU8
  refine wp_append_any _ x y _ ho B 5 i0 _ 1 1 Tryd.underlying26 hi0 hz0 hz1 hz2 rfl (by omega) _ n (bs l) hs hown w.heap.size A2 m c2 (bs l2) hx hr (bs_one l2) (by simp only [maxLen]; omega) (by omega) hB ?_
  intro v1 w1 hown1 hg1 hat1
  rw [← bs_append] at hown1
  obtain ⟨A', c', rfl⟩ := own_formP hown1
  exact h A' c' w1 hown1 hg1
/-- What is handed on: nothing; what is written, cut off; or whole, with what stands behind it. -/
def Dat (T : PT) (bl : List Int) (cut : Int) (Ab : Option Addr) (cb : Nat) (w : World) (e : Ending) (w' : World) : Prop :=
  Below w.heap.size w w' ∧ (e = .returned (.tuple #[.slice none 0 0, .slice none 0 0, .bool false, .bool false]) ∨
    (Fits T 6 ∧ T.cnt ≤ 500 ∧ bl.length ≤ 100 ∧ ∃ enc, FP T enc ∧
      ((0 < cut ∧ ∃ A c m, m < enc.length ∧ e = .returned (.tuple #[.slice A m c, .slice none 0 0, .bool true, .bool true]) ∧ m ≤ c ∧ c ≤ maxLen ∧ Reads w' w'.heap.size 1 A m (bs (enc.take m))) ∨
       (cut ≤ 0 ∧ ∃ A c, e = .returned (.tuple #[.slice A (enc ++ bl).length c, .slice Ab bl.length cb, .bool false, .bool true]) ∧ (enc ++ bl).length ≤ c ∧ c ≤ maxLen ∧ Reads w' w'.heap.size 1 A (enc ++ bl).length (bs (enc ++ bl))))))
set_option maxHeartbeats 8000000 in
set_option maxRecDepth 100000 in
theorem data_calls (T : PT) (W : World) (fo cut : Int) (A Ab : Option Addr) (c cb : Nat) (sh : Bool) (bl : List Int) (h : TR W W.heap.size T A c) (hbl : Reads W W.heap.size 1 Ab bl.length (bs bl)) (hbc : bl.length ≤ cb) (hbm : cb ≤ maxLen) :
    Calls Tryd.prog 11 #[.agg #[.int .i64 T.k, .int .u64 T.u, .string T.s, .int .i64 T.x, .slice A T.n c, .int .u64 fo, .bool sh, .slice Ab bl.length cb, .int .i64 cut]] W (Dat T bl cut Ab cb W) := by
  obtain ⟨i0, hi0, hz0, hz1, hz2⟩ := info_parts infoU8
  obtain ⟨w1, hw1⟩ : ∃ w1, w1 = W.alloc (.cells #[.int .i64 T.k, .int .u64 T.u, .string T.s, .int .i64 T.x, .slice A T.n c, .int .u64 fo, .bool sh, .slice Ab bl.length cb, .int .i64 cut] 28) := ⟨_, rfl⟩
  have hz : w1.heap.size = W.heap.size + 1 := by rw [hw1]; simp
  have hp1 : Blk w1 W.heap.size 28 [.int .i64 T.k, .int .u64 T.u, .string T.s, .int .i64 T.x, .slice A T.n c, .int .u64 fo, .bool sh, .slice Ab bl.length cb, .int .i64 cut] := by rw [hw1]; exact Blk.new W _ [_, _, _, _, _, _, _, _, _]
  have hbel : Below W.heap.size W w1 := by rw [hw1]; exact (Below.refl _ W).alloc (Nat.le_refl _) _
  have hbm2 : bl.length ≤ 9223372036854775807 := by simp only [maxLen] at hbm; omega
  have ht1 : TR w1 w1.heap.size T A c := TR.more (by omega) _ _ _ (TR.below hbel _ _ _ h)
  have hpf := PackFits_calls T w1 A c 6 ht1 (by omega)
  unfold vP at hpf
  rw [hw1] at hpf
  have g0 := hp1.cell 0
  have g1 := hp1.cell 1
  have g2 := hp1.cell 2
  have g3 := hp1.cell 3
  have g4 := hp1.cell 4
  simp only [List.getElem?_cons_zero, List.getElem?_cons_succ] at g0 g1 g2 g3 g4
  rw [hw1] at g0 g1 g2 g3 g4
  have HPF := Lib.hid hpf
  have HW1 := Lib.hid hw1
  have HP1 := Lib.hid hp1
  have HBEL := Lib.hid hbel
  have HT := Lib.hid h
  have HBL := Lib.hid hbl
  have HZ := Lib.hid hz
  clear hpf hw1 hp1 hbel h hbl hz ht1
  by_cases hn100 : 100 < bl.length
  · have hd100 : decide ((100 : Int) < (bl.length : Int)) = true := decide_eq_true (by omega)
    go_enter Tryd.func11, Tryd.ntmps11
    go_wp2_with (first
      | (go_at_call 27
         go_must (
           (refine HPF.out.mono ?_)
           rintro e w2 ⟨b, rfl, hf2, hb2⟩
           rw [← HW1.out] at hb2
           have hp2 := HP1.out.below hb2 HP1.out.lt
           have m0 := hp2.cell 0
           have m1 := hp2.cell 1
           have m2 := hp2.cell 2
           have m3 := hp2.cell 3
           have m4 := hp2.cell 4
           have m7 := hp2.cell 7
           simp only [List.getElem?_cons_zero, List.getElem?_cons_succ] at m0 m1 m2 m3 m4 m7
           have HF2 := Lib.hid hf2
           have HP2 := Lib.hid hp2
           have HB2 : Hid (Below W.heap.size W w2) := HBEL.out.trans (hb2.mono (by have := HZ.out; omega))
           clear hf2 hb2 hp2 g0 g1 g2 g3 g4))
      | (go_at_call 28
         go_must (
           (have hbt : b = true := by first | assumption | (have hx : (!b) = false := by assumption
                                                            simpa using hx))
           obtain ⟨hfit, hct⟩ := HF2.out hbt
           have hpk := Packs_calls W.heap.size T w2 A c (TR.below HB2.out _ _ _ HT.out) HB2.out.size hct
           unfold vP at hpk
           refine hpk.mono ?_
           rintro e w3 ⟨rfl, hb3⟩
           have hp3 := HP2.out.below hb3 HP2.out.lt
           have k0 := hp3.cell 0
           have k1 := hp3.cell 1
           have k2 := hp3.cell 2
           have k3 := hp3.cell 3
           have k4 := hp3.cell 4
           have k5 := hp3.cell 5
           have k6 := hp3.cell 6
           have k7 := hp3.cell 7
           simp only [List.getElem?_cons_zero, List.getElem?_cons_succ] at k0 k1 k2 k3 k4 k5 k6 k7
           have HFIT := Lib.hid hfit
           have HP3 := Lib.hid hp3
           have HB3 : Hid (Below W.heap.size W w3) := HB2.out.trans (hb3.mono HB2.out.size)
           clear hpk hb3 hp3 hfit m0 m1 m2 m3 m4 m7)))
    all_goals first
      | (((try simp only [Exit.inBlock, Exit.then]); refine bodyPost_ret (results_tmpQ rfl _ _ _) rfl ?_)
         exact ⟨HB2.out, .inl rfl⟩)
      | (((try simp only [Exit.inBlock, Exit.then]); refine bodyPost_ret (results_tmpQ rfl _ _ _) rfl ?_)
         exact ⟨HB3.out, .inl rfl⟩)
  have hd100 : decide ((100 : Int) < (bl.length : Int)) = false := decide_eq_false (by omega)
  by_cases hcut : 0 < cut
  · go_enter Tryd.func11, Tryd.ntmps11
    go_wp2_with (first
      | (go_at_call 27
         go_must (
           (refine HPF.out.mono ?_)
           rintro e w2 ⟨b, rfl, hf2, hb2⟩
           rw [← HW1.out] at hb2
           have hp2 := HP1.out.below hb2 HP1.out.lt
           have m0 := hp2.cell 0
           have m1 := hp2.cell 1
           have m2 := hp2.cell 2
           have m3 := hp2.cell 3
           have m4 := hp2.cell 4
           have m7 := hp2.cell 7
           simp only [List.getElem?_cons_zero, List.getElem?_cons_succ] at m0 m1 m2 m3 m4 m7
           have HF2 := Lib.hid hf2
           have HP2 := Lib.hid hp2
           have HB2 : Hid (Below W.heap.size W w2) := HBEL.out.trans (hb2.mono (by have := HZ.out; omega))
           clear hf2 hb2 hp2 g0 g1 g2 g3 g4))
      | (go_at_call 28
         go_must (
           (have hbt : b = true := by first | assumption | (have hx : (!b) = false := by assumption
                                                            simpa using hx))
           obtain ⟨hfit, hct⟩ := HF2.out hbt
           have hpk := Packs_calls W.heap.size T w2 A c (TR.below HB2.out _ _ _ HT.out) HB2.out.size hct
           unfold vP at hpk
           refine hpk.mono ?_
           rintro e w3 ⟨rfl, hb3⟩
           have hp3 := HP2.out.below hb3 HP2.out.lt
           have k0 := hp3.cell 0
           have k1 := hp3.cell 1
           have k2 := hp3.cell 2
           have k3 := hp3.cell 3
           have k4 := hp3.cell 4
           have k5 := hp3.cell 5
           have k6 := hp3.cell 6
           have k7 := hp3.cell 7
           simp only [List.getElem?_cons_zero, List.getElem?_cons_succ] at k0 k1 k2 k3 k4 k5 k6 k7
           have HFIT := Lib.hid hfit
           have HP3 := Lib.hid hp3
           have HB3 : Hid (Below W.heap.size W w3) := HB2.out.trans (hb3.mono HB2.out.size)
           clear hpk hb3 hp3 hfit m0 m1 m2 m3 m4 m7))
      | (go_at_call 29
         go_must (
           (have hzw : W.heap.size ≤ w3.heap.size := HB3.out.size)
           have hbel4 : Below W.heap.size W (w3.alloc (.cells #[.int .u64 fo, .bool sh] 62)) := HB3.out.alloc hzw _
           have hpp := PutPack_calls W.heap.size T (w3.alloc (.cells #[.int .u64 fo, .bool sh] 62)) w3.heap.size fo sh A c 6 (TR.below hbel4 _ _ _ HT.out) HFIT.out (by omega) hbel4.size hzw (Blk.new w3 _ [_, _])
           unfold vP at hpp
           refine hpp.mono ?_
           rintro e w5 ⟨enc, A5, c5, st5, rfl, hf5, hown5, hb5, hg5⟩
           have hp5 := (HP3.out.alloc (.cells #[.int .u64 fo, .bool sh] 62)).grown hg5 (fun e => (HP3.out.alloc (.cells #[.int .u64 fo, .bool sh] 62)).ne_ (Blk.new w3 62 [.int .u64 fo, .bool sh]) (by decide) (by injection e))
           have j7 := hp5.cell 7
           have j8 := hp5.cell 8
           simp only [List.getElem?_cons_zero, List.getElem?_cons_succ] at j7 j8
           have hbel5 : Below W.heap.size W w5 := hbel4.grown hg5 hbel4.size (fun j hj => by injection hj with hj; omega)
           have hlow := own_lower (B' := W.heap.size) hown5 hbel4.size
           have hl0 := hf5.2.1
           have hl1 := hf5.2.2
           have hl2 : enc.length ≤ 70000000 := by omega
           obtain ⟨A9, c9, hv9, hc9, hm9⟩ := own_formQ hown5
           injection hv9 with ev1 ev2 ev3
           subst ev1
           subst ev3
           obtain ⟨N5, hN5⟩ : ∃ N5, N5 = enc.length := ⟨_, rfl⟩
           rw [← hN5] at hlow hl0 hl2 hc9 ⊢
           obtain ⟨mn, hmn⟩ : ∃ mn : Nat, min cut (N5 : Int) = (mn : Int) := ⟨(min cut (N5 : Int)).toNat, by omega⟩
           have hmn0 : 1 ≤ mn := by omega
           have hmn1 : mn ≤ N5 := by omega
           have hsb0 : (0 : Int) ≤ (N5 : Int) - (mn : Int) := by omega
           have hsb1 : (N5 : Int) - (mn : Int) ≤ (c5 : Int) := by omega
           have hsb2 : ((N5 : Int) - (mn : Int)).toNat = N5 - mn := by omega
           have HF5 := Lib.hid hf5
           have HN5 := Lib.hid hN5
           have HO5 := Lib.hid hlow
           have HP5 := Lib.hid hp5
           have HB5 := Lib.hid hbel5
           clear hpp hbel4 hf5 hown5 hb5 hg5 hp5 hbel5 hlow hl1 hN5 k0 k1 k2 k3 k4 k5 k6 k7)))
    all_goals first
      | (((try simp only [Exit.inBlock, Exit.then]); refine bodyPost_ret (results_tmpQ rfl _ _ _) rfl ?_)
         exact ⟨HB2.out, .inl rfl⟩)
      | (((try simp only [Exit.inBlock, Exit.then]); refine bodyPost_ret (results_tmpQ rfl _ _ _) rfl ?_)
         exact ⟨HB3.out, .inl rfl⟩)
      | (((try simp only [Exit.inBlock, Exit.then]); refine bodyPost_ret (results_tmpQ rfl _ _ _) rfl ?_)
         refine ⟨HB5.out, .inr ⟨HFIT.out, by omega, by omega, enc, HF5.out, .inl ⟨hcut, A5, c5, N5 - mn, by have := HN5.out; omega, rfl, by omega, hm9, ?_⟩⟩⟩
         have hr := (Reads.of_own HO5.out).take1 (show N5 - mn ≤ N5 by omega)
         rw [bs_take] at hr
         exact hr)
      | (((try simp only [Exit.inBlock, Exit.then]); refine bodyPost_ret (results_tmpQ rfl _ _ _) rfl ?_)
         refine ⟨HB5.out, .inr ⟨HFIT.out, by omega, by omega, enc, HF5.out, .inl ⟨hcut, A5, c5, 0, by have := HN5.out; omega, rfl, by omega, hm9, ?_⟩⟩⟩
         have hr := (Reads.of_own HO5.out).take1 (show 0 ≤ N5 by omega)
         rw [bs_take] at hr
         exact hr)
      | (((try simp only [Exit.inBlock, Exit.then]); refine bodyPost_ret (results_tmpQ rfl _ _ _) rfl ?_)
         refine ⟨HB5.out, .inr ⟨HFIT.out, by omega, by omega, enc, HF5.out, .inl ⟨hcut, A5, c5, ((N5 : Int) - cut).toNat, by have := HN5.out; omega, rfl, by omega, hm9, ?_⟩⟩⟩
         have hr := (Reads.of_own HO5.out).take1 (show ((N5 : Int) - cut).toNat ≤ N5 by omega)
         rw [bs_take] at hr
         exact hr)
  · have hcd : decide (0 < cut) = false := decide_eq_false hcut
    go_enter Tryd.func11, Tryd.ntmps11
    go_wp2_with (first
      | (go_at_call 27
         go_must (
           (refine HPF.out.mono ?_)
           rintro e w2 ⟨b, rfl, hf2, hb2⟩
           rw [← HW1.out] at hb2
           have hp2 := HP1.out.below hb2 HP1.out.lt
           have m0 := hp2.cell 0
           have m1 := hp2.cell 1
           have m2 := hp2.cell 2
           have m3 := hp2.cell 3
           have m4 := hp2.cell 4
           have m7 := hp2.cell 7
           simp only [List.getElem?_cons_zero, List.getElem?_cons_succ] at m0 m1 m2 m3 m4 m7
           have HF2 := Lib.hid hf2
           have HP2 := Lib.hid hp2
           have HB2 : Hid (Below W.heap.size W w2) := HBEL.out.trans (hb2.mono (by have := HZ.out; omega))
           clear hf2 hb2 hp2 g0 g1 g2 g3 g4))
      | (go_at_call 28
         go_must (
           (have hbt : b = true := by first | assumption | (have hx : (!b) = false := by assumption
                                                            simpa using hx))
           obtain ⟨hfit, hct⟩ := HF2.out hbt
           have hpk := Packs_calls W.heap.size T w2 A c (TR.below HB2.out _ _ _ HT.out) HB2.out.size hct
           unfold vP at hpk
           refine hpk.mono ?_
           rintro e w3 ⟨rfl, hb3⟩
           have hp3 := HP2.out.below hb3 HP2.out.lt
           have k0 := hp3.cell 0
           have k1 := hp3.cell 1
           have k2 := hp3.cell 2
           have k3 := hp3.cell 3
           have k4 := hp3.cell 4
           have k5 := hp3.cell 5
           have k6 := hp3.cell 6
           have k7 := hp3.cell 7
           simp only [List.getElem?_cons_zero, List.getElem?_cons_succ] at k0 k1 k2 k3 k4 k5 k6 k7
           have HFIT := Lib.hid hfit
           have HP3 := Lib.hid hp3
           have HB3 : Hid (Below W.heap.size W w3) := HB2.out.trans (hb3.mono HB2.out.size)
           clear hpk hb3 hp3 hfit m0 m1 m2 m3 m4 m7))
      | (go_at_call 29
         go_must (
           (have hzw : W.heap.size ≤ w3.heap.size := HB3.out.size)
           have hbel4 : Below W.heap.size W (w3.alloc (.cells #[.int .u64 fo, .bool sh] 62)) := HB3.out.alloc hzw _
           have hpp := PutPack_calls W.heap.size T (w3.alloc (.cells #[.int .u64 fo, .bool sh] 62)) w3.heap.size fo sh A c 6 (TR.below hbel4 _ _ _ HT.out) HFIT.out (by omega) hbel4.size hzw (Blk.new w3 _ [_, _])
           unfold vP at hpp
           refine hpp.mono ?_
           rintro e w5 ⟨enc, A5, c5, st5, rfl, hf5, hown5, hb5, hg5⟩
           have hp5 := (HP3.out.alloc (.cells #[.int .u64 fo, .bool sh] 62)).grown hg5 (fun e => (HP3.out.alloc (.cells #[.int .u64 fo, .bool sh] 62)).ne_ (Blk.new w3 62 [.int .u64 fo, .bool sh]) (by decide) (by injection e))
           have j7 := hp5.cell 7
           have j8 := hp5.cell 8
           simp only [List.getElem?_cons_zero, List.getElem?_cons_succ] at j7 j8
           have hbel5 : Below W.heap.size W w5 := hbel4.grown hg5 hbel4.size (fun j hj => by injection hj with hj; omega)
           have hlow := own_lower (B' := W.heap.size) hown5 hbel4.size
           have hl0 := hf5.2.1
           have hl1 := hf5.2.2
           have hl2 : enc.length ≤ 70000000 := by omega
           obtain ⟨A9, c9, hv9, hc9, hm9⟩ := own_formQ hown5
           injection hv9 with ev1 ev2 ev3
           subst ev1
           subst ev3
           obtain ⟨N5, hN5⟩ : ∃ N5, N5 = enc.length := ⟨_, rfl⟩
           rw [← hN5] at hlow hl0 hl2 hc9 ⊢
           have HF5 := Lib.hid hf5
           have HN5 := Lib.hid hN5
           have HO5 := Lib.hid hlow
           have HP5 := Lib.hid hp5
           have HB5 := Lib.hid hbel5
           clear hpp hbel4 hf5 hown5 hb5 hg5 hp5 hbel5 hlow hl1 hN5 k0 k1 k2 k3 k4 k5 k6 k7))
      | (go_region_held3 (fun W' => W'.cell? ⟨W.heap.size, 7, none⟩ = some (.slice Ab bl.length cb)) (first | assumption | go_keep) (first
          | (refine step_append_src (B := W.heap.size) rfl (.tmp 44) (.tmp 46) rfl rfl rfl HO5.out (((HBL.out.below HB5.out).more HB5.out.size).drewN 1) HB5.out.size (by omega) ?_
             intro A6 c6 w6 HO6 HG6
             have q7 : w6.cell? ⟨W.heap.size, 7, none⟩ = some (.slice Ab bl.length cb) := (HP5.out.grown (w := w5) ⟨HG6.out.os, HG6.out.tape, HG6.out.output, HG6.out.size, HG6.out.block⟩ (fun e => own_neP HO5.out HP5.out (by decide) e.symm)).cell 7
             have hlo : ∀ j, (Value.slice A5 N5 c5).ownBlock = some j → W.heap.size ≤ j := fun j hj => (HO5.out.lt j hj).1
             have HB6 : Hid (Below W.heap.size W w6) := HB5.out.grown (w' := w6) ⟨HG6.out.os, HG6.out.tape, HG6.out.output, HG6.out.size, HG6.out.block⟩ HB5.out.size hlo
             clear hlo
             clear j7 j8))))
    all_goals first
      | (((try simp only [Exit.inBlock, Exit.then]); refine bodyPost_ret (results_tmpQ rfl _ _ _) rfl ?_)
         exact ⟨HB2.out, .inl rfl⟩)
      | (((try simp only [Exit.inBlock, Exit.then]); refine bodyPost_ret (results_tmpQ rfl _ _ _) rfl ?_)
         exact ⟨HB3.out, .inl rfl⟩)
      | (((try simp only [Exit.inBlock, Exit.then]); refine bodyPost_ret (results_tmpQ rfl _ _ _) rfl ?_)
         obtain ⟨A10, c10, hv10, hc10, hm10⟩ := own_formQ HO6.out
         injection hv10 with ev1 ev2 ev3
         subst ev1
         subst ev3
         have hlen : (enc ++ bl).length = N5 + bl.length := by rw [List.length_append, ← HN5.out]
         refine ⟨HB6.out, .inr ⟨HFIT.out, by omega, by omega, enc, HF5.out, .inr ⟨by omega, A6, c6, ?_, ?_, hm10, ?_⟩⟩⟩
         · rw [hlen]; rfl
         · rw [hlen]; exact hc10
         · have hr := Reads.of_own HO6.out
           rw [hlen]
           exact hr)
end Go.Proofs.YtlpnaifagiddlaaDoor
