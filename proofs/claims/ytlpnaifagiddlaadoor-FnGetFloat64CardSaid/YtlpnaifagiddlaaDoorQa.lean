/- The walks of FnGetDuration, FnGetInt16. PRINTED by wip/genqa.py. -/
import Derived.Test.YtlpnaifagiddlaaDoorPz
namespace Go.Proofs.YtlpnaifagiddlaaDoor
open Go.RowKit
set_option linter.unusedVariables false

/-- What is cut off, or nothing. -/
theorem Dat.cut {T : PT} {bl : List Int} {cut : Int} {Ab : Option Addr} {cb : Nat} {w w' : World} {e : Ending} (h : Dat T bl cut Ab cb w e w') (hc : 0 < cut) :
    ∃ A1 m1 c1 b, e = .returned (.tuple #[.slice A1 m1 c1, .slice none 0 0, .bool b, .bool b]) ∧ Below w.heap.size w w' ∧ (b = true → Fits T 6 ∧ bl.length ≤ 100 ∧ ∃ enc, FP T enc ∧ m1 < enc.length ∧ m1 ≤ c1 ∧ c1 ≤ maxLen ∧ Reads w' w'.heap.size 1 A1 m1 (bs (enc.take m1))) := by
  obtain ⟨hb, rfl | ⟨hf, h1, h2, enc, he, ⟨_, A, c, m, hm, rfl, h3, h4, hr⟩ | ⟨h0, _⟩⟩⟩ := h
  · exact ⟨_, _, _, false, rfl, hb, by intro h; cases h⟩
  · exact ⟨A, m, c, true, rfl, hb, fun _ => ⟨hf, h2, enc, he, hm, h3, h4, hr⟩⟩
  · omega
theorem Dat.whole {T : PT} {bl : List Int} {cut : Int} {Ab : Option Addr} {cb : Nat} {w w' : World} {e : Ending} (h : Dat T bl cut Ab cb w e w') (hc : ¬ 0 < cut) :
    ∃ A1 m1 c1 A2 m2 c2 b, e = .returned (.tuple #[.slice A1 m1 c1, .slice A2 m2 c2, .bool false, .bool b]) ∧ Below w.heap.size w w' ∧ (b = true → Fits T 6 ∧ bl.length ≤ 100 ∧ A2 = Ab ∧ m2 = bl.length ∧ ∃ enc, FP T enc ∧ m1 = (enc ++ bl).length ∧ m1 ≤ c1 ∧ c1 ≤ maxLen ∧ Reads w' w'.heap.size 1 A1 m1 (bs (enc ++ bl))) := by
  obtain ⟨hb, rfl | ⟨hf, h1, h2, enc, he, ⟨h0, _⟩ | ⟨_, A, c, rfl, h3, h4, hr⟩⟩⟩ := h
  · exact ⟨_, _, _, _, _, _, false, rfl, hb, by intro h; cases h⟩
  · omega
  · exact ⟨A, _, c, _, _, _, true, rfl, hb, fun _ => ⟨hf, h2, rfl, rfl, enc, he, rfl, h3, h4, hr⟩⟩

theorem GD_five (W : World) : Calls Tryd.prog 18 #[.slice (some ⟨W.heap.size, 0, none⟩) 1 1] (W.alloc (.cells #[.int .u8 5] 5)) (GB .i64 5 [] (W.alloc (.cells #[.int .u8 5] 5))) := by
  have hb := Blk.new W 5 [.int .u8 5]
  have hr : Reads (W.alloc (.cells #[.int .u8 5] 5)) (W.alloc (.cells #[.int .u8 5] 5)).heap.size 1 (some ⟨W.heap.size, 0, none⟩) 1 (bs ([5] ++ [])) := (hb.reads 0 1 (by simp)).more (show W.heap.size + 1 ≤ _ from hb.lt)
  have r64 := RI_in (W.alloc (.cells #[.int .u8 5] 5)) (W.alloc (.cells #[.int .u8 5] 5)).heap.size 1 (some ⟨W.heap.size, 0, none⟩) 5 [5] (.inl ⟨by omega, by omega, rfl⟩) (by omega) [] hr (by simp) (by simp [maxLen]) (Nat.le_refl _)
  exact GD_ok _ _ _ _ 5 [] _ (Nat.le_refl _) (by simp) (RD_ok _ _ _ _ 5 [] _ r64)

theorem G16_five (W : World) : Calls Tryd.prog 20 #[.slice (some ⟨W.heap.size, 0, none⟩) 1 1] (W.alloc (.cells #[.int .u8 5] 5)) (GB .i16 5 [] (W.alloc (.cells #[.int .u8 5] 5))) := by
  have hb := Blk.new W 5 [.int .u8 5]
  have hr : Reads (W.alloc (.cells #[.int .u8 5] 5)) (W.alloc (.cells #[.int .u8 5] 5)).heap.size 1 (some ⟨W.heap.size, 0, none⟩) 1 (bs ([5] ++ [])) := (hb.reads 0 1 (by simp)).more (show W.heap.size + 1 ≤ _ from hb.lt)
  have r64 := RI_in (W.alloc (.cells #[.int .u8 5] 5)) (W.alloc (.cells #[.int .u8 5] 5)).heap.size 1 (some ⟨W.heap.size, 0, none⟩) 5 [5] (.inl ⟨by omega, by omega, rfl⟩) (by omega) [] hr (by simp) (by simp [maxLen]) (Nat.le_refl _)
  exact G16_ok _ _ _ _ 5 [] _ (Nat.le_refl _) (by simp) (R16_ok _ _ _ _ 5 [] _ (by omega) (by omega) r64)

set_option maxHeartbeats 8000000 in
set_option maxRecDepth 100000 in
theorem lawGD_cut (T : PT) (W : World) (fo cut : Int) (A Ab : Option Addr) (c cb : Nat) (sh : Bool) (bl : List Int) (hwf : T.wf) (h : TR W W.heap.size T A c) (hbl : Reads W W.heap.size 1 Ab bl.length (bs bl)) (hbc : bl.length ≤ cb) (hbm : cb ≤ maxLen)
    (ts : TypeId) (vs : Value) (hsh : W.cell? ⟨1, 0, none⟩ = some (.iface ts vs)) (hG : 1 < W.heap.size) (hc : 0 < cut) :
    Calls Tryd.prog 5 #[.agg #[.int .i64 T.k, .int .u64 T.u, .string T.s, .int .i64 T.x, .slice A T.n c, .int .u64 fo, .bool sh, .slice Ab bl.length cb, .int .i64 cut]] W fun e w' => e = .returned (.bool true) ∧ Below W.heap.size W w' := by
  have hp1 : Blk (W.alloc (.cells #[.int .i64 T.k, .int .u64 T.u, .string T.s, .int .i64 T.x, .slice A T.n c, .int .u64 fo, .bool sh, .slice Ab bl.length cb, .int .i64 cut] 28)) W.heap.size 28 [.int .i64 T.k, .int .u64 T.u, .string T.s, .int .i64 T.x, .slice A T.n c, .int .u64 fo, .bool sh, .slice Ab bl.length cb, .int .i64 cut] := Blk.new W _ [_, _, _, _, _, _, _, _, _]
  have hbel : Below W.heap.size W (W.alloc (.cells #[.int .i64 T.k, .int .u64 T.u, .string T.s, .int .i64 T.x, .slice A T.n c, .int .u64 fo, .bool sh, .slice Ab bl.length cb, .int .i64 cut] 28)) := (Below.refl _ W).alloc (Nat.le_refl _) _
  have HP1 := Lib.hid hp1
  have HBEL := Lib.hid hbel
  have HT := Lib.hid h
  have HBL := Lib.hid hbl
  have HWF := Lib.hid hwf
  have HSH := Lib.hid hsh
  have HG := Lib.hid hG
  have hwr : IntKind.i64.wrap T.u = wrap64 T.u := wrap_i64 _
  have hwr2 : wrap64 (wrap64 T.u) = wrap64 T.u := by unfold wrap64; omega
  have hwr3 : IntKind.i64.wrap (wrap64 T.u) = wrap64 T.u := by rw [wrap_i64]; exact hwr2
  have hbm2 : bl.length ≤ 9223372036854775807 := by simp only [maxLen] at hbm; omega
  clear hp1 hbel h hbl hwf hsh hG
  go_enter Tryd.func5, Tryd.ntmps5
  go_wp2_with (first
    | (go_at_call 9
       go_must (
         (refine (zzFits16_calls _ T.k T.u fo T.x cut T.s A Ab T.n c bl.length cb sh).mono ?_)
         rintro e w2 ⟨rfl, hb2⟩
         have hp2 := HP1.out.below hb2 HP1.out.lt
         have m0 := hp2.cell 0
         have m1 := hp2.cell 1
         have m2 := hp2.cell 2
         have m3 := hp2.cell 3
         have m4 := hp2.cell 4
         have m5 := hp2.cell 5
         have m6 := hp2.cell 6
         have m7 := hp2.cell 7
         have m8 := hp2.cell 8
         simp only [List.getElem?_cons_zero, List.getElem?_cons_succ] at m0 m1 m2 m3 m4 m5 m6 m7 m8
         have HP2 := Lib.hid hp2
         have HB2 : Hid (Below W.heap.size W w2) := HBEL.out.trans (hb2.mono HBEL.out.size)
         clear hp2 hb2))
    | (go_at_call 18
       first
       | (have HDD := HD.out
          clear HDD
          go_must (
         (have hbt : b = true := by first | assumption | (have hx : (!b) = false := (by assumption); simpa using hx))
         obtain ⟨hfit, hl100, enc, hfp, hm, hmc, hcm, hr⟩ := HD.out hbt
         refine (GD_cut w4 c1 A1 T enc hfp hfit HWF.out m1 hm hr hmc hcm ts vs ?_).mono ?_
         · rw [HB4.out.cell (by show _ < _; exact HG.out)]; exact HSH.out
         rintro e w5 ⟨rfl, hb5⟩
         have HB5 : Hid (Below W.heap.size W w5) := HB4.out.trans (hb5.mono HB4.out.size)
         have hp5 := HP4.out.below hb5 HP4.out.lt
         have l0 := hp5.cell 0
         have l1 := hp5.cell 1
         have l2 := hp5.cell 2
         have l3 := hp5.cell 3
         have l4 := hp5.cell 4
         have l5 := hp5.cell 5
         have l6 := hp5.cell 6
         have l7 := hp5.cell 7
         have l8 := hp5.cell 8
         simp only [List.getElem?_cons_zero, List.getElem?_cons_succ] at l0 l1 l2 l3 l4 l5 l6 l7 l8
         have HP5 := Lib.hid hp5
         clear hb5 hp5 k0 k1 k2 k3 k4 k5 k6 k7 k8))
       | go_must (
         (refine (GD_five w2).mono ?_)
         rintro e w3 ⟨A0, c0, rfl, hr3, hb3⟩
         have hba : Below W.heap.size W (w2.alloc (.cells #[.int .u8 5] 5)) := HB2.out.alloc HB2.out.size _
         have HB3 : Hid (Below W.heap.size W w3) := hba.trans (hb3.mono hba.size)
         have hp3 := (HP2.out.alloc (.cells #[.int .u8 5] 5)).below hb3 (HP2.out.alloc (.cells #[.int .u8 5] 5)).lt
         have j0 := hp3.cell 0
         have j1 := hp3.cell 1
         have j2 := hp3.cell 2
         have j3 := hp3.cell 3
         have j4 := hp3.cell 4
         have j5 := hp3.cell 5
         have j6 := hp3.cell 6
         have j7 := hp3.cell 7
         have j8 := hp3.cell 8
         simp only [List.getElem?_cons_zero, List.getElem?_cons_succ] at j0 j1 j2 j3 j4 j5 j6 j7 j8
         have HP3 := Lib.hid hp3
         clear hp3 hb3 hba hr3 m0 m1 m2 m3 m4 m5 m6 m7 m8))
    | (go_at_call 11
       go_must (
         (refine (data_calls T _ fo cut A Ab c cb sh bl (TR.more HB3.out.size _ _ _ (TR.below HB3.out _ _ _ HT.out)) ((HBL.out.below HB3.out).more HB3.out.size) hbc hbm).mono ?_)
         rintro e w4 hdat
         obtain ⟨A1, m1, c1, b, rfl, hb4, hd⟩ := hdat.cut hc
         have HB4 : Hid (Below W.heap.size W w4) := HB3.out.trans (hb4.mono HB3.out.size)
         have hp4 := HP3.out.below hb4 HP3.out.lt
         have k0 := hp4.cell 0
         have k1 := hp4.cell 1
         have k2 := hp4.cell 2
         have k3 := hp4.cell 3
         have k4 := hp4.cell 4
         have k5 := hp4.cell 5
         have k6 := hp4.cell 6
         have k7 := hp4.cell 7
         have k8 := hp4.cell 8
         simp only [List.getElem?_cons_zero, List.getElem?_cons_succ] at k0 k1 k2 k3 k4 k5 k6 k7 k8
         have HD := Lib.hid hd
         have HP4 := Lib.hid hp4
         clear hdat hd hb4 hp4 j0 j1 j2 j3 j4 j5 j6 j7 j8))
    | (go_at_call 19
       go_must (
         (refine (FI64_calls _ T A c HWF.out).mono ?_)
         rintro e w7 ⟨b7, rfl, hb7, hbel7⟩
         have hba5 : Below W.heap.size W (w5.alloc (.cells #[.int .i64 T.k, .int .u64 T.u, .string T.s, .int .i64 T.x, .slice A T.n c] 25)) := HB5.out.alloc HB5.out.size _
         have HB7 : Hid (Below W.heap.size W w7) := hba5.trans (hbel7.mono hba5.size)
         have hpv := (Blk.new w5 25 [.int .i64 T.k, .int .u64 T.u, .string T.s, .int .i64 T.x, .slice A T.n c]).below hbel7 (by simp)
         have v1 := hpv.cell 1
         simp only [List.getElem?_cons_zero, List.getElem?_cons_succ] at v1
         clear hb7 hpv hba5 l0 l1 l2 l3 l4 l5 l6 l7 l8))
)
  all_goals (
    (try simp only [Exit.inBlock, Exit.then])
    go_ret
    first
      | exact ⟨rfl, HB9.out⟩
      | exact ⟨rfl, HB7.out⟩
      | exact ⟨rfl, HB5.out.alloc HB5.out.size _⟩
      | exact ⟨rfl, HB4.out⟩
      | exact ⟨rfl, HB2.out⟩)

set_option maxHeartbeats 8000000 in
set_option maxRecDepth 100000 in
theorem lawGD_fit (T : PT) (W : World) (fo cut : Int) (A Ab : Option Addr) (c cb : Nat) (sh : Bool) (bl : List Int) (hwf : T.wf) (h : TR W W.heap.size T A c) (hbl : Reads W W.heap.size 1 Ab bl.length (bs bl)) (hbc : bl.length ≤ cb) (hbm : cb ≤ maxLen)
    (ts : TypeId) (vs : Value) (hsh : W.cell? ⟨1, 0, none⟩ = some (.iface ts vs)) (hG : 1 < W.heap.size) (hc : ¬ 0 < cut) (hF : FitI (-9223372036854775808) 9223372036854775807 T) :
    Calls Tryd.prog 5 #[.agg #[.int .i64 T.k, .int .u64 T.u, .string T.s, .int .i64 T.x, .slice A T.n c, .int .u64 fo, .bool sh, .slice Ab bl.length cb, .int .i64 cut]] W fun e w' => e = .returned (.bool true) ∧ Below W.heap.size W w' := by
  have hp1 : Blk (W.alloc (.cells #[.int .i64 T.k, .int .u64 T.u, .string T.s, .int .i64 T.x, .slice A T.n c, .int .u64 fo, .bool sh, .slice Ab bl.length cb, .int .i64 cut] 28)) W.heap.size 28 [.int .i64 T.k, .int .u64 T.u, .string T.s, .int .i64 T.x, .slice A T.n c, .int .u64 fo, .bool sh, .slice Ab bl.length cb, .int .i64 cut] := Blk.new W _ [_, _, _, _, _, _, _, _, _]
  have hbel : Below W.heap.size W (W.alloc (.cells #[.int .i64 T.k, .int .u64 T.u, .string T.s, .int .i64 T.x, .slice A T.n c, .int .u64 fo, .bool sh, .slice Ab bl.length cb, .int .i64 cut] 28)) := (Below.refl _ W).alloc (Nat.le_refl _) _
  have HP1 := Lib.hid hp1
  have HBEL := Lib.hid hbel
  have HT := Lib.hid h
  have HBL := Lib.hid hbl
  have HWF := Lib.hid hwf
  have HSH := Lib.hid hsh
  have HG := Lib.hid hG
  have hwr : IntKind.i64.wrap T.u = wrap64 T.u := wrap_i64 _
  have hwr2 : wrap64 (wrap64 T.u) = wrap64 T.u := by unfold wrap64; omega
  have hwr3 : IntKind.i64.wrap (wrap64 T.u) = wrap64 T.u := by rw [wrap_i64]; exact hwr2
  have hbm2 : bl.length ≤ 9223372036854775807 := by simp only [maxLen] at hbm; omega
  clear hp1 hbel h hbl hwf hsh hG
  go_enter Tryd.func5, Tryd.ntmps5
  go_wp2_with (first
    | (go_at_call 9
       go_must (
         (refine (zzFits16_calls _ T.k T.u fo T.x cut T.s A Ab T.n c bl.length cb sh).mono ?_)
         rintro e w2 ⟨rfl, hb2⟩
         have hp2 := HP1.out.below hb2 HP1.out.lt
         have m0 := hp2.cell 0
         have m1 := hp2.cell 1
         have m2 := hp2.cell 2
         have m3 := hp2.cell 3
         have m4 := hp2.cell 4
         have m5 := hp2.cell 5
         have m6 := hp2.cell 6
         have m7 := hp2.cell 7
         have m8 := hp2.cell 8
         simp only [List.getElem?_cons_zero, List.getElem?_cons_succ] at m0 m1 m2 m3 m4 m5 m6 m7 m8
         have HP2 := Lib.hid hp2
         have HB2 : Hid (Below W.heap.size W w2) := HBEL.out.trans (hb2.mono HBEL.out.size)
         clear hp2 hb2))
    | (go_at_call 18
       first
       | (have HDD := HD.out
          clear HDD
          go_must (
         (have hbt : b = true := by first | assumption | (have hx : (!b) = false := (by assumption); simpa using hx))
         obtain ⟨hfit, hl100, hA2, hm2, enc, hfp, hm, hmc, hcm, hr⟩ := HD.out hbt
         subst hA2
         subst hm2
         subst hm
         refine (GD_whole w4 c1 A1 T enc bl hfp hfit HWF.out hl100 hr hmc hcm).mono ?_
         rintro e w5 ⟨g1, g2⟩
         obtain ⟨A5, c5, rfl, hr5, hb5⟩ := g1 hF
         have HR5 := Lib.hid hr5
         clear hr5 g1 g2
         have HB5 : Hid (Below W.heap.size W w5) := HB4.out.trans (hb5.mono HB4.out.size)
         have hp5 := HP4.out.below hb5 HP4.out.lt
         have l0 := hp5.cell 0
         have l1 := hp5.cell 1
         have l2 := hp5.cell 2
         have l3 := hp5.cell 3
         have l4 := hp5.cell 4
         have l5 := hp5.cell 5
         have l6 := hp5.cell 6
         have l7 := hp5.cell 7
         have l8 := hp5.cell 8
         simp only [List.getElem?_cons_zero, List.getElem?_cons_succ] at l0 l1 l2 l3 l4 l5 l6 l7 l8
         have HP5 := Lib.hid hp5
         clear hb5 hp5 k0 k1 k2 k3 k4 k5 k6 k7 k8))
       | go_must (
         (refine (GD_five w2).mono ?_)
         rintro e w3 ⟨A0, c0, rfl, hr3, hb3⟩
         have hba : Below W.heap.size W (w2.alloc (.cells #[.int .u8 5] 5)) := HB2.out.alloc HB2.out.size _
         have HB3 : Hid (Below W.heap.size W w3) := hba.trans (hb3.mono hba.size)
         have hp3 := (HP2.out.alloc (.cells #[.int .u8 5] 5)).below hb3 (HP2.out.alloc (.cells #[.int .u8 5] 5)).lt
         have j0 := hp3.cell 0
         have j1 := hp3.cell 1
         have j2 := hp3.cell 2
         have j3 := hp3.cell 3
         have j4 := hp3.cell 4
         have j5 := hp3.cell 5
         have j6 := hp3.cell 6
         have j7 := hp3.cell 7
         have j8 := hp3.cell 8
         simp only [List.getElem?_cons_zero, List.getElem?_cons_succ] at j0 j1 j2 j3 j4 j5 j6 j7 j8
         have HP3 := Lib.hid hp3
         clear hp3 hb3 hba hr3 m0 m1 m2 m3 m4 m5 m6 m7 m8))
    | (go_at_call 11
       go_must (
         (refine (data_calls T _ fo cut A Ab c cb sh bl (TR.more HB3.out.size _ _ _ (TR.below HB3.out _ _ _ HT.out)) ((HBL.out.below HB3.out).more HB3.out.size) hbc hbm).mono ?_)
         rintro e w4 hdat
         obtain ⟨A1, m1, c1, A2, m2, c2, b, rfl, hb4, hd⟩ := hdat.whole (by omega)
         have HB4 : Hid (Below W.heap.size W w4) := HB3.out.trans (hb4.mono HB3.out.size)
         have hp4 := HP3.out.below hb4 HP3.out.lt
         have k0 := hp4.cell 0
         have k1 := hp4.cell 1
         have k2 := hp4.cell 2
         have k3 := hp4.cell 3
         have k4 := hp4.cell 4
         have k5 := hp4.cell 5
         have k6 := hp4.cell 6
         have k7 := hp4.cell 7
         have k8 := hp4.cell 8
         simp only [List.getElem?_cons_zero, List.getElem?_cons_succ] at k0 k1 k2 k3 k4 k5 k6 k7 k8
         have HD := Lib.hid hd
         have HP4 := Lib.hid hp4
         clear hdat hd hb4 hp4 j0 j1 j2 j3 j4 j5 j6 j7 j8))
    | (go_at_call 19
       go_must (
         (refine (FI64_calls _ T A c HWF.out).mono ?_)
         rintro e w7 ⟨b7, rfl, hb7, hbel7⟩
         have hba5 : Below W.heap.size W (w5.alloc (.cells #[.int .i64 T.k, .int .u64 T.u, .string T.s, .int .i64 T.x, .slice A T.n c] 25)) := HB5.out.alloc HB5.out.size _
         have HB7 : Hid (Below W.heap.size W w7) := hba5.trans (hbel7.mono hba5.size)
         have hpv := (Blk.new w5 25 [.int .i64 T.k, .int .u64 T.u, .string T.s, .int .i64 T.x, .slice A T.n c]).below hbel7 (by simp)
         have v1 := hpv.cell 1
         simp only [List.getElem?_cons_zero, List.getElem?_cons_succ] at v1
         obtain rfl : b7 = true := hb7.2 hF
         have HR7 : Hid (Reads w7 w7.heap.size 1 A5 bl.length (bs bl)) := (((HR5.out.alloc (Nat.le_refl _) _).more (by simp)).below hbel7).more hbel7.size
         clear hb7 hpv hba5 l0 l1 l2 l3 l4 l5 l6 l7 l8))

    | (go_at_call 16
       go_must (
         (refine (left_calls w7 A5 A2 c5 c2 bl HR7.out ((HBL.out.below HB7.out).more HB7.out.size)).mono ?_)
         rintro e w9 ⟨rfl, hb9⟩
         have HB9 : Hid (Below W.heap.size W w9) := HB7.out.trans (hb9.mono HB7.out.size)
         clear hb9)))
  all_goals (
    (try simp only [Exit.inBlock, Exit.then])
    go_ret
    first
      | exact ⟨rfl, HB9.out⟩
      | exact ⟨rfl, HB7.out⟩
      | exact ⟨rfl, HB5.out.alloc HB5.out.size _⟩
      | exact ⟨rfl, HB4.out⟩
      | exact ⟨rfl, HB2.out⟩)

set_option maxHeartbeats 8000000 in
set_option maxRecDepth 100000 in
theorem lawGD_unfit (T : PT) (W : World) (fo cut : Int) (A Ab : Option Addr) (c cb : Nat) (sh : Bool) (bl : List Int) (hwf : T.wf) (h : TR W W.heap.size T A c) (hbl : Reads W W.heap.size 1 Ab bl.length (bs bl)) (hbc : bl.length ≤ cb) (hbm : cb ≤ maxLen)
    (ts : TypeId) (vs : Value) (hsh : W.cell? ⟨1, 0, none⟩ = some (.iface ts vs)) (hG : 1 < W.heap.size) (hc : ¬ 0 < cut) (hF : ¬ FitI (-9223372036854775808) 9223372036854775807 T) :
    Calls Tryd.prog 5 #[.agg #[.int .i64 T.k, .int .u64 T.u, .string T.s, .int .i64 T.x, .slice A T.n c, .int .u64 fo, .bool sh, .slice Ab bl.length cb, .int .i64 cut]] W fun e w' => e = .returned (.bool true) ∧ Below W.heap.size W w' := by
  have hp1 : Blk (W.alloc (.cells #[.int .i64 T.k, .int .u64 T.u, .string T.s, .int .i64 T.x, .slice A T.n c, .int .u64 fo, .bool sh, .slice Ab bl.length cb, .int .i64 cut] 28)) W.heap.size 28 [.int .i64 T.k, .int .u64 T.u, .string T.s, .int .i64 T.x, .slice A T.n c, .int .u64 fo, .bool sh, .slice Ab bl.length cb, .int .i64 cut] := Blk.new W _ [_, _, _, _, _, _, _, _, _]
  have hbel : Below W.heap.size W (W.alloc (.cells #[.int .i64 T.k, .int .u64 T.u, .string T.s, .int .i64 T.x, .slice A T.n c, .int .u64 fo, .bool sh, .slice Ab bl.length cb, .int .i64 cut] 28)) := (Below.refl _ W).alloc (Nat.le_refl _) _
  have HP1 := Lib.hid hp1
  have HBEL := Lib.hid hbel
  have HT := Lib.hid h
  have HBL := Lib.hid hbl
  have HWF := Lib.hid hwf
  have HSH := Lib.hid hsh
  have HG := Lib.hid hG
  have hwr : IntKind.i64.wrap T.u = wrap64 T.u := wrap_i64 _
  have hwr2 : wrap64 (wrap64 T.u) = wrap64 T.u := by unfold wrap64; omega
  have hwr3 : IntKind.i64.wrap (wrap64 T.u) = wrap64 T.u := by rw [wrap_i64]; exact hwr2
  have hbm2 : bl.length ≤ 9223372036854775807 := by simp only [maxLen] at hbm; omega
  clear hp1 hbel h hbl hwf hsh hG
  go_enter Tryd.func5, Tryd.ntmps5
  go_wp2_with (first
    | (go_at_call 9
       go_must (
         (refine (zzFits16_calls _ T.k T.u fo T.x cut T.s A Ab T.n c bl.length cb sh).mono ?_)
         rintro e w2 ⟨rfl, hb2⟩
         have hp2 := HP1.out.below hb2 HP1.out.lt
         have m0 := hp2.cell 0
         have m1 := hp2.cell 1
         have m2 := hp2.cell 2
         have m3 := hp2.cell 3
         have m4 := hp2.cell 4
         have m5 := hp2.cell 5
         have m6 := hp2.cell 6
         have m7 := hp2.cell 7
         have m8 := hp2.cell 8
         simp only [List.getElem?_cons_zero, List.getElem?_cons_succ] at m0 m1 m2 m3 m4 m5 m6 m7 m8
         have HP2 := Lib.hid hp2
         have HB2 : Hid (Below W.heap.size W w2) := HBEL.out.trans (hb2.mono HBEL.out.size)
         clear hp2 hb2))
    | (go_at_call 18
       first
       | (have HDD := HD.out
          clear HDD
          go_must (
         (have hbt : b = true := by first | assumption | (have hx : (!b) = false := (by assumption); simpa using hx))
         obtain ⟨hfit, hl100, hA2, hm2, enc, hfp, hm, hmc, hcm, hr⟩ := HD.out hbt
         subst hA2
         subst hm2
         subst hm
         refine (GD_whole w4 c1 A1 T enc bl hfp hfit HWF.out hl100 hr hmc hcm).mono ?_
         rintro e w5 ⟨g1, g2⟩
         obtain ⟨rfl, hb5⟩ := g2 hF
         clear g1 g2
         have HB5 : Hid (Below W.heap.size W w5) := HB4.out.trans (hb5.mono HB4.out.size)
         have hp5 := HP4.out.below hb5 HP4.out.lt
         have l0 := hp5.cell 0
         have l1 := hp5.cell 1
         have l2 := hp5.cell 2
         have l3 := hp5.cell 3
         have l4 := hp5.cell 4
         have l5 := hp5.cell 5
         have l6 := hp5.cell 6
         have l7 := hp5.cell 7
         have l8 := hp5.cell 8
         simp only [List.getElem?_cons_zero, List.getElem?_cons_succ] at l0 l1 l2 l3 l4 l5 l6 l7 l8
         have HP5 := Lib.hid hp5
         clear hb5 hp5 k0 k1 k2 k3 k4 k5 k6 k7 k8))
       | go_must (
         (refine (GD_five w2).mono ?_)
         rintro e w3 ⟨A0, c0, rfl, hr3, hb3⟩
         have hba : Below W.heap.size W (w2.alloc (.cells #[.int .u8 5] 5)) := HB2.out.alloc HB2.out.size _
         have HB3 : Hid (Below W.heap.size W w3) := hba.trans (hb3.mono hba.size)
         have hp3 := (HP2.out.alloc (.cells #[.int .u8 5] 5)).below hb3 (HP2.out.alloc (.cells #[.int .u8 5] 5)).lt
         have j0 := hp3.cell 0
         have j1 := hp3.cell 1
         have j2 := hp3.cell 2
         have j3 := hp3.cell 3
         have j4 := hp3.cell 4
         have j5 := hp3.cell 5
         have j6 := hp3.cell 6
         have j7 := hp3.cell 7
         have j8 := hp3.cell 8
         simp only [List.getElem?_cons_zero, List.getElem?_cons_succ] at j0 j1 j2 j3 j4 j5 j6 j7 j8
         have HP3 := Lib.hid hp3
         clear hp3 hb3 hba hr3 m0 m1 m2 m3 m4 m5 m6 m7 m8))
    | (go_at_call 11
       go_must (
         (refine (data_calls T _ fo cut A Ab c cb sh bl (TR.more HB3.out.size _ _ _ (TR.below HB3.out _ _ _ HT.out)) ((HBL.out.below HB3.out).more HB3.out.size) hbc hbm).mono ?_)
         rintro e w4 hdat
         obtain ⟨A1, m1, c1, A2, m2, c2, b, rfl, hb4, hd⟩ := hdat.whole (by omega)
         have HB4 : Hid (Below W.heap.size W w4) := HB3.out.trans (hb4.mono HB3.out.size)
         have hp4 := HP3.out.below hb4 HP3.out.lt
         have k0 := hp4.cell 0
         have k1 := hp4.cell 1
         have k2 := hp4.cell 2
         have k3 := hp4.cell 3
         have k4 := hp4.cell 4
         have k5 := hp4.cell 5
         have k6 := hp4.cell 6
         have k7 := hp4.cell 7
         have k8 := hp4.cell 8
         simp only [List.getElem?_cons_zero, List.getElem?_cons_succ] at k0 k1 k2 k3 k4 k5 k6 k7 k8
         have HD := Lib.hid hd
         have HP4 := Lib.hid hp4
         clear hdat hd hb4 hp4 j0 j1 j2 j3 j4 j5 j6 j7 j8))
    | (go_at_call 19
       go_must (
         (refine (FI64_calls _ T A c HWF.out).mono ?_)
         rintro e w7 ⟨b7, rfl, hb7, hbel7⟩
         have hba5 : Below W.heap.size W (w5.alloc (.cells #[.int .i64 T.k, .int .u64 T.u, .string T.s, .int .i64 T.x, .slice A T.n c] 25)) := HB5.out.alloc HB5.out.size _
         have HB7 : Hid (Below W.heap.size W w7) := hba5.trans (hbel7.mono hba5.size)
         have hpv := (Blk.new w5 25 [.int .i64 T.k, .int .u64 T.u, .string T.s, .int .i64 T.x, .slice A T.n c]).below hbel7 (by simp)
         have v1 := hpv.cell 1
         simp only [List.getElem?_cons_zero, List.getElem?_cons_succ] at v1
         obtain rfl : b7 = false := by cases b7 with | false => rfl | true => exact absurd (hb7.1 rfl) hF
         clear hb7 hpv hba5 l0 l1 l2 l3 l4 l5 l6 l7 l8))
)
  all_goals (
    (try simp only [Exit.inBlock, Exit.then])
    go_ret
    first
      | exact ⟨rfl, HB9.out⟩
      | exact ⟨rfl, HB7.out⟩
      | exact ⟨rfl, HB5.out.alloc HB5.out.size _⟩
      | exact ⟨rfl, HB4.out⟩
      | exact ⟨rfl, HB2.out⟩)

set_option maxHeartbeats 8000000 in
set_option maxRecDepth 100000 in
theorem lawG16_cut (T : PT) (W : World) (fo cut : Int) (A Ab : Option Addr) (c cb : Nat) (sh : Bool) (bl : List Int) (hwf : T.wf) (h : TR W W.heap.size T A c) (hbl : Reads W W.heap.size 1 Ab bl.length (bs bl)) (hbc : bl.length ≤ cb) (hbm : cb ≤ maxLen)
    (ts : TypeId) (vs : Value) (hsh : W.cell? ⟨1, 0, none⟩ = some (.iface ts vs)) (hG : 1 < W.heap.size) (hc : 0 < cut) :
    Calls Tryd.prog 6 #[.agg #[.int .i64 T.k, .int .u64 T.u, .string T.s, .int .i64 T.x, .slice A T.n c, .int .u64 fo, .bool sh, .slice Ab bl.length cb, .int .i64 cut]] W fun e w' => e = .returned (.bool true) ∧ Below W.heap.size W w' := by
  have hp1 : Blk (W.alloc (.cells #[.int .i64 T.k, .int .u64 T.u, .string T.s, .int .i64 T.x, .slice A T.n c, .int .u64 fo, .bool sh, .slice Ab bl.length cb, .int .i64 cut] 28)) W.heap.size 28 [.int .i64 T.k, .int .u64 T.u, .string T.s, .int .i64 T.x, .slice A T.n c, .int .u64 fo, .bool sh, .slice Ab bl.length cb, .int .i64 cut] := Blk.new W _ [_, _, _, _, _, _, _, _, _]
  have hbel : Below W.heap.size W (W.alloc (.cells #[.int .i64 T.k, .int .u64 T.u, .string T.s, .int .i64 T.x, .slice A T.n c, .int .u64 fo, .bool sh, .slice Ab bl.length cb, .int .i64 cut] 28)) := (Below.refl _ W).alloc (Nat.le_refl _) _
  have HP1 := Lib.hid hp1
  have HBEL := Lib.hid hbel
  have HT := Lib.hid h
  have HBL := Lib.hid hbl
  have HWF := Lib.hid hwf
  have HSH := Lib.hid hsh
  have HG := Lib.hid hG
  have hwr : IntKind.i64.wrap T.u = wrap64 T.u := wrap_i64 _
  have hwr2 : wrap64 (wrap64 T.u) = wrap64 T.u := by unfold wrap64; omega
  have hwr3 : IntKind.i64.wrap (wrap64 T.u) = wrap64 T.u := by rw [wrap_i64]; exact hwr2
  have hbm2 : bl.length ≤ 9223372036854775807 := by simp only [maxLen] at hbm; omega
  clear hp1 hbel h hbl hwf hsh hG
  go_enter Tryd.func6, Tryd.ntmps6
  go_wp2_with (first
    | (go_at_call 9
       go_must (
         (refine (zzFits16_calls _ T.k T.u fo T.x cut T.s A Ab T.n c bl.length cb sh).mono ?_)
         rintro e w2 ⟨rfl, hb2⟩
         have hp2 := HP1.out.below hb2 HP1.out.lt
         have m0 := hp2.cell 0
         have m1 := hp2.cell 1
         have m2 := hp2.cell 2
         have m3 := hp2.cell 3
         have m4 := hp2.cell 4
         have m5 := hp2.cell 5
         have m6 := hp2.cell 6
         have m7 := hp2.cell 7
         have m8 := hp2.cell 8
         simp only [List.getElem?_cons_zero, List.getElem?_cons_succ] at m0 m1 m2 m3 m4 m5 m6 m7 m8
         have HP2 := Lib.hid hp2
         have HB2 : Hid (Below W.heap.size W w2) := HBEL.out.trans (hb2.mono HBEL.out.size)
         clear hp2 hb2))
    | (go_at_call 20
       first
       | (have HDD := HD.out
          clear HDD
          go_must (
         (have hbt : b = true := by first | assumption | (have hx : (!b) = false := (by assumption); simpa using hx))
         obtain ⟨hfit, hl100, enc, hfp, hm, hmc, hcm, hr⟩ := HD.out hbt
         refine (G16_cut w4 c1 A1 T enc hfp hfit HWF.out m1 hm hr hmc hcm ts vs ?_).mono ?_
         · rw [HB4.out.cell (by show _ < _; exact HG.out)]; exact HSH.out
         rintro e w5 ⟨rfl, hb5⟩
         have HB5 : Hid (Below W.heap.size W w5) := HB4.out.trans (hb5.mono HB4.out.size)
         have hp5 := HP4.out.below hb5 HP4.out.lt
         have l0 := hp5.cell 0
         have l1 := hp5.cell 1
         have l2 := hp5.cell 2
         have l3 := hp5.cell 3
         have l4 := hp5.cell 4
         have l5 := hp5.cell 5
         have l6 := hp5.cell 6
         have l7 := hp5.cell 7
         have l8 := hp5.cell 8
         simp only [List.getElem?_cons_zero, List.getElem?_cons_succ] at l0 l1 l2 l3 l4 l5 l6 l7 l8
         have HP5 := Lib.hid hp5
         clear hb5 hp5 k0 k1 k2 k3 k4 k5 k6 k7 k8))
       | go_must (
         (refine (G16_five w2).mono ?_)
         rintro e w3 ⟨A0, c0, rfl, hr3, hb3⟩
         have hba : Below W.heap.size W (w2.alloc (.cells #[.int .u8 5] 5)) := HB2.out.alloc HB2.out.size _
         have HB3 : Hid (Below W.heap.size W w3) := hba.trans (hb3.mono hba.size)
         have hp3 := (HP2.out.alloc (.cells #[.int .u8 5] 5)).below hb3 (HP2.out.alloc (.cells #[.int .u8 5] 5)).lt
         have j0 := hp3.cell 0
         have j1 := hp3.cell 1
         have j2 := hp3.cell 2
         have j3 := hp3.cell 3
         have j4 := hp3.cell 4
         have j5 := hp3.cell 5
         have j6 := hp3.cell 6
         have j7 := hp3.cell 7
         have j8 := hp3.cell 8
         simp only [List.getElem?_cons_zero, List.getElem?_cons_succ] at j0 j1 j2 j3 j4 j5 j6 j7 j8
         have HP3 := Lib.hid hp3
         clear hp3 hb3 hba hr3 m0 m1 m2 m3 m4 m5 m6 m7 m8))
    | (go_at_call 11
       go_must (
         (refine (data_calls T _ fo cut A Ab c cb sh bl (TR.more HB3.out.size _ _ _ (TR.below HB3.out _ _ _ HT.out)) ((HBL.out.below HB3.out).more HB3.out.size) hbc hbm).mono ?_)
         rintro e w4 hdat
         obtain ⟨A1, m1, c1, b, rfl, hb4, hd⟩ := hdat.cut hc
         have HB4 : Hid (Below W.heap.size W w4) := HB3.out.trans (hb4.mono HB3.out.size)
         have hp4 := HP3.out.below hb4 HP3.out.lt
         have k0 := hp4.cell 0
         have k1 := hp4.cell 1
         have k2 := hp4.cell 2
         have k3 := hp4.cell 3
         have k4 := hp4.cell 4
         have k5 := hp4.cell 5
         have k6 := hp4.cell 6
         have k7 := hp4.cell 7
         have k8 := hp4.cell 8
         simp only [List.getElem?_cons_zero, List.getElem?_cons_succ] at k0 k1 k2 k3 k4 k5 k6 k7 k8
         have HD := Lib.hid hd
         have HP4 := Lib.hid hp4
         clear hdat hd hb4 hp4 j0 j1 j2 j3 j4 j5 j6 j7 j8))
    | (go_at_call 19
       go_must (
         (refine (FI16_calls _ T A c HWF.out).mono ?_)
         rintro e w7 ⟨b7, rfl, hb7, hbel7⟩
         have hba5 : Below W.heap.size W (w5.alloc (.cells #[.int .i64 T.k, .int .u64 T.u, .string T.s, .int .i64 T.x, .slice A T.n c] 25)) := HB5.out.alloc HB5.out.size _
         have HB7 : Hid (Below W.heap.size W w7) := hba5.trans (hbel7.mono hba5.size)
         have hpv := (Blk.new w5 25 [.int .i64 T.k, .int .u64 T.u, .string T.s, .int .i64 T.x, .slice A T.n c]).below hbel7 (by simp)
         have v1 := hpv.cell 1
         simp only [List.getElem?_cons_zero, List.getElem?_cons_succ] at v1
         clear hb7 hpv hba5 l0 l1 l2 l3 l4 l5 l6 l7 l8))
)
  all_goals (
    (try simp only [Exit.inBlock, Exit.then])
    go_ret
    first
      | exact ⟨rfl, HB9.out⟩
      | exact ⟨rfl, HB7.out⟩
      | exact ⟨rfl, HB5.out.alloc HB5.out.size _⟩
      | exact ⟨rfl, HB4.out⟩
      | exact ⟨rfl, HB2.out⟩)

set_option maxHeartbeats 8000000 in
set_option maxRecDepth 100000 in
theorem lawG16_fit (T : PT) (W : World) (fo cut : Int) (A Ab : Option Addr) (c cb : Nat) (sh : Bool) (bl : List Int) (hwf : T.wf) (h : TR W W.heap.size T A c) (hbl : Reads W W.heap.size 1 Ab bl.length (bs bl)) (hbc : bl.length ≤ cb) (hbm : cb ≤ maxLen)
    (ts : TypeId) (vs : Value) (hsh : W.cell? ⟨1, 0, none⟩ = some (.iface ts vs)) (hG : 1 < W.heap.size) (hc : ¬ 0 < cut) (hF : FitI (-32768) 32767 T) :
    Calls Tryd.prog 6 #[.agg #[.int .i64 T.k, .int .u64 T.u, .string T.s, .int .i64 T.x, .slice A T.n c, .int .u64 fo, .bool sh, .slice Ab bl.length cb, .int .i64 cut]] W fun e w' => e = .returned (.bool true) ∧ Below W.heap.size W w' := by
  have hp1 : Blk (W.alloc (.cells #[.int .i64 T.k, .int .u64 T.u, .string T.s, .int .i64 T.x, .slice A T.n c, .int .u64 fo, .bool sh, .slice Ab bl.length cb, .int .i64 cut] 28)) W.heap.size 28 [.int .i64 T.k, .int .u64 T.u, .string T.s, .int .i64 T.x, .slice A T.n c, .int .u64 fo, .bool sh, .slice Ab bl.length cb, .int .i64 cut] := Blk.new W _ [_, _, _, _, _, _, _, _, _]
  have hbel : Below W.heap.size W (W.alloc (.cells #[.int .i64 T.k, .int .u64 T.u, .string T.s, .int .i64 T.x, .slice A T.n c, .int .u64 fo, .bool sh, .slice Ab bl.length cb, .int .i64 cut] 28)) := (Below.refl _ W).alloc (Nat.le_refl _) _
  have HP1 := Lib.hid hp1
  have HBEL := Lib.hid hbel
  have HT := Lib.hid h
  have HBL := Lib.hid hbl
  have HWF := Lib.hid hwf
  have HSH := Lib.hid hsh
  have HG := Lib.hid hG
  have hwr : IntKind.i64.wrap T.u = wrap64 T.u := wrap_i64 _
  have hwr2 : wrap64 (wrap64 T.u) = wrap64 T.u := by unfold wrap64; omega
  have hwr3 : IntKind.i64.wrap (wrap64 T.u) = wrap64 T.u := by rw [wrap_i64]; exact hwr2
  have hbm2 : bl.length ≤ 9223372036854775807 := by simp only [maxLen] at hbm; omega
  clear hp1 hbel h hbl hwf hsh hG
  go_enter Tryd.func6, Tryd.ntmps6
  go_wp2_with (first
    | (go_at_call 9
       go_must (
         (refine (zzFits16_calls _ T.k T.u fo T.x cut T.s A Ab T.n c bl.length cb sh).mono ?_)
         rintro e w2 ⟨rfl, hb2⟩
         have hp2 := HP1.out.below hb2 HP1.out.lt
         have m0 := hp2.cell 0
         have m1 := hp2.cell 1
         have m2 := hp2.cell 2
         have m3 := hp2.cell 3
         have m4 := hp2.cell 4
         have m5 := hp2.cell 5
         have m6 := hp2.cell 6
         have m7 := hp2.cell 7
         have m8 := hp2.cell 8
         simp only [List.getElem?_cons_zero, List.getElem?_cons_succ] at m0 m1 m2 m3 m4 m5 m6 m7 m8
         have HP2 := Lib.hid hp2
         have HB2 : Hid (Below W.heap.size W w2) := HBEL.out.trans (hb2.mono HBEL.out.size)
         clear hp2 hb2))
    | (go_at_call 20
       first
       | (have HDD := HD.out
          clear HDD
          go_must (
         (have hbt : b = true := by first | assumption | (have hx : (!b) = false := (by assumption); simpa using hx))
         obtain ⟨hfit, hl100, hA2, hm2, enc, hfp, hm, hmc, hcm, hr⟩ := HD.out hbt
         subst hA2
         subst hm2
         subst hm
         refine (G16_whole w4 c1 A1 T enc bl hfp hfit HWF.out hl100 hr hmc hcm).mono ?_
         rintro e w5 ⟨g1, g2⟩
         obtain ⟨A5, c5, rfl, hr5, hb5⟩ := g1 hF
         have HR5 := Lib.hid hr5
         clear hr5 g1 g2
         have HB5 : Hid (Below W.heap.size W w5) := HB4.out.trans (hb5.mono HB4.out.size)
         have hp5 := HP4.out.below hb5 HP4.out.lt
         have l0 := hp5.cell 0
         have l1 := hp5.cell 1
         have l2 := hp5.cell 2
         have l3 := hp5.cell 3
         have l4 := hp5.cell 4
         have l5 := hp5.cell 5
         have l6 := hp5.cell 6
         have l7 := hp5.cell 7
         have l8 := hp5.cell 8
         simp only [List.getElem?_cons_zero, List.getElem?_cons_succ] at l0 l1 l2 l3 l4 l5 l6 l7 l8
         have HP5 := Lib.hid hp5
         clear hb5 hp5 k0 k1 k2 k3 k4 k5 k6 k7 k8))
       | go_must (
         (refine (G16_five w2).mono ?_)
         rintro e w3 ⟨A0, c0, rfl, hr3, hb3⟩
         have hba : Below W.heap.size W (w2.alloc (.cells #[.int .u8 5] 5)) := HB2.out.alloc HB2.out.size _
         have HB3 : Hid (Below W.heap.size W w3) := hba.trans (hb3.mono hba.size)
         have hp3 := (HP2.out.alloc (.cells #[.int .u8 5] 5)).below hb3 (HP2.out.alloc (.cells #[.int .u8 5] 5)).lt
         have j0 := hp3.cell 0
         have j1 := hp3.cell 1
         have j2 := hp3.cell 2
         have j3 := hp3.cell 3
         have j4 := hp3.cell 4
         have j5 := hp3.cell 5
         have j6 := hp3.cell 6
         have j7 := hp3.cell 7
         have j8 := hp3.cell 8
         simp only [List.getElem?_cons_zero, List.getElem?_cons_succ] at j0 j1 j2 j3 j4 j5 j6 j7 j8
         have HP3 := Lib.hid hp3
         clear hp3 hb3 hba hr3 m0 m1 m2 m3 m4 m5 m6 m7 m8))
    | (go_at_call 11
       go_must (
         (refine (data_calls T _ fo cut A Ab c cb sh bl (TR.more HB3.out.size _ _ _ (TR.below HB3.out _ _ _ HT.out)) ((HBL.out.below HB3.out).more HB3.out.size) hbc hbm).mono ?_)
         rintro e w4 hdat
         obtain ⟨A1, m1, c1, A2, m2, c2, b, rfl, hb4, hd⟩ := hdat.whole (by omega)
         have HB4 : Hid (Below W.heap.size W w4) := HB3.out.trans (hb4.mono HB3.out.size)
         have hp4 := HP3.out.below hb4 HP3.out.lt
         have k0 := hp4.cell 0
         have k1 := hp4.cell 1
         have k2 := hp4.cell 2
         have k3 := hp4.cell 3
         have k4 := hp4.cell 4
         have k5 := hp4.cell 5
         have k6 := hp4.cell 6
         have k7 := hp4.cell 7
         have k8 := hp4.cell 8
         simp only [List.getElem?_cons_zero, List.getElem?_cons_succ] at k0 k1 k2 k3 k4 k5 k6 k7 k8
         have HD := Lib.hid hd
         have HP4 := Lib.hid hp4
         clear hdat hd hb4 hp4 j0 j1 j2 j3 j4 j5 j6 j7 j8))
    | (go_at_call 19
       go_must (
         (refine (FI16_calls _ T A c HWF.out).mono ?_)
         rintro e w7 ⟨b7, rfl, hb7, hbel7⟩
         have hba5 : Below W.heap.size W (w5.alloc (.cells #[.int .i64 T.k, .int .u64 T.u, .string T.s, .int .i64 T.x, .slice A T.n c] 25)) := HB5.out.alloc HB5.out.size _
         have HB7 : Hid (Below W.heap.size W w7) := hba5.trans (hbel7.mono hba5.size)
         have hpv := (Blk.new w5 25 [.int .i64 T.k, .int .u64 T.u, .string T.s, .int .i64 T.x, .slice A T.n c]).below hbel7 (by simp)
         have v1 := hpv.cell 1
         simp only [List.getElem?_cons_zero, List.getElem?_cons_succ] at v1
         obtain rfl : b7 = true := hb7.2 hF
         have HR7 : Hid (Reads w7 w7.heap.size 1 A5 bl.length (bs bl)) := (((HR5.out.alloc (Nat.le_refl _) _).more (by simp)).below hbel7).more hbel7.size
         clear hb7 hpv hba5 l0 l1 l2 l3 l4 l5 l6 l7 l8))

    | (go_at_call 16
       go_must (
         (refine (left_calls w7 A5 A2 c5 c2 bl HR7.out ((HBL.out.below HB7.out).more HB7.out.size)).mono ?_)
         rintro e w9 ⟨rfl, hb9⟩
         have HB9 : Hid (Below W.heap.size W w9) := HB7.out.trans (hb9.mono HB7.out.size)
         clear hb9)))
  all_goals (
    (try simp only [Exit.inBlock, Exit.then])
    go_ret
    first
      | exact ⟨rfl, HB9.out⟩
      | exact ⟨rfl, HB7.out⟩
      | exact ⟨rfl, HB5.out.alloc HB5.out.size _⟩
      | exact ⟨rfl, HB4.out⟩
      | exact ⟨rfl, HB2.out⟩)

set_option maxHeartbeats 8000000 in
set_option maxRecDepth 100000 in
theorem lawG16_unfit (T : PT) (W : World) (fo cut : Int) (A Ab : Option Addr) (c cb : Nat) (sh : Bool) (bl : List Int) (hwf : T.wf) (h : TR W W.heap.size T A c) (hbl : Reads W W.heap.size 1 Ab bl.length (bs bl)) (hbc : bl.length ≤ cb) (hbm : cb ≤ maxLen)
    (ts : TypeId) (vs : Value) (hsh : W.cell? ⟨1, 0, none⟩ = some (.iface ts vs)) (hG : 1 < W.heap.size) (hc : ¬ 0 < cut) (hF : ¬ FitI (-32768) 32767 T) :
    Calls Tryd.prog 6 #[.agg #[.int .i64 T.k, .int .u64 T.u, .string T.s, .int .i64 T.x, .slice A T.n c, .int .u64 fo, .bool sh, .slice Ab bl.length cb, .int .i64 cut]] W fun e w' => e = .returned (.bool true) ∧ Below W.heap.size W w' := by
  have hp1 : Blk (W.alloc (.cells #[.int .i64 T.k, .int .u64 T.u, .string T.s, .int .i64 T.x, .slice A T.n c, .int .u64 fo, .bool sh, .slice Ab bl.length cb, .int .i64 cut] 28)) W.heap.size 28 [.int .i64 T.k, .int .u64 T.u, .string T.s, .int .i64 T.x, .slice A T.n c, .int .u64 fo, .bool sh, .slice Ab bl.length cb, .int .i64 cut] := Blk.new W _ [_, _, _, _, _, _, _, _, _]
  have hbel : Below W.heap.size W (W.alloc (.cells #[.int .i64 T.k, .int .u64 T.u, .string T.s, .int .i64 T.x, .slice A T.n c, .int .u64 fo, .bool sh, .slice Ab bl.length cb, .int .i64 cut] 28)) := (Below.refl _ W).alloc (Nat.le_refl _) _
  have HP1 := Lib.hid hp1
  have HBEL := Lib.hid hbel
  have HT := Lib.hid h
  have HBL := Lib.hid hbl
  have HWF := Lib.hid hwf
  have HSH := Lib.hid hsh
  have HG := Lib.hid hG
  have hwr : IntKind.i64.wrap T.u = wrap64 T.u := wrap_i64 _
  have hwr2 : wrap64 (wrap64 T.u) = wrap64 T.u := by unfold wrap64; omega
  have hwr3 : IntKind.i64.wrap (wrap64 T.u) = wrap64 T.u := by rw [wrap_i64]; exact hwr2
  have hbm2 : bl.length ≤ 9223372036854775807 := by simp only [maxLen] at hbm; omega
  clear hp1 hbel h hbl hwf hsh hG
  go_enter Tryd.func6, Tryd.ntmps6
  go_wp2_with (first
    | (go_at_call 9
       go_must (
         (refine (zzFits16_calls _ T.k T.u fo T.x cut T.s A Ab T.n c bl.length cb sh).mono ?_)
         rintro e w2 ⟨rfl, hb2⟩
         have hp2 := HP1.out.below hb2 HP1.out.lt
         have m0 := hp2.cell 0
         have m1 := hp2.cell 1
         have m2 := hp2.cell 2
         have m3 := hp2.cell 3
         have m4 := hp2.cell 4
         have m5 := hp2.cell 5
         have m6 := hp2.cell 6
         have m7 := hp2.cell 7
         have m8 := hp2.cell 8
         simp only [List.getElem?_cons_zero, List.getElem?_cons_succ] at m0 m1 m2 m3 m4 m5 m6 m7 m8
         have HP2 := Lib.hid hp2
         have HB2 : Hid (Below W.heap.size W w2) := HBEL.out.trans (hb2.mono HBEL.out.size)
         clear hp2 hb2))
    | (go_at_call 20
       first
       | (have HDD := HD.out
          clear HDD
          go_must (
         (have hbt : b = true := by first | assumption | (have hx : (!b) = false := (by assumption); simpa using hx))
         obtain ⟨hfit, hl100, hA2, hm2, enc, hfp, hm, hmc, hcm, hr⟩ := HD.out hbt
         subst hA2
         subst hm2
         subst hm
         refine (G16_whole w4 c1 A1 T enc bl hfp hfit HWF.out hl100 hr hmc hcm).mono ?_
         rintro e w5 ⟨g1, g2⟩
         obtain ⟨rfl, hb5⟩ := g2 hF
         clear g1 g2
         have HB5 : Hid (Below W.heap.size W w5) := HB4.out.trans (hb5.mono HB4.out.size)
         have hp5 := HP4.out.below hb5 HP4.out.lt
         have l0 := hp5.cell 0
         have l1 := hp5.cell 1
         have l2 := hp5.cell 2
         have l3 := hp5.cell 3
         have l4 := hp5.cell 4
         have l5 := hp5.cell 5
         have l6 := hp5.cell 6
         have l7 := hp5.cell 7
         have l8 := hp5.cell 8
         simp only [List.getElem?_cons_zero, List.getElem?_cons_succ] at l0 l1 l2 l3 l4 l5 l6 l7 l8
         have HP5 := Lib.hid hp5
         clear hb5 hp5 k0 k1 k2 k3 k4 k5 k6 k7 k8))
       | go_must (
         (refine (G16_five w2).mono ?_)
         rintro e w3 ⟨A0, c0, rfl, hr3, hb3⟩
         have hba : Below W.heap.size W (w2.alloc (.cells #[.int .u8 5] 5)) := HB2.out.alloc HB2.out.size _
         have HB3 : Hid (Below W.heap.size W w3) := hba.trans (hb3.mono hba.size)
         have hp3 := (HP2.out.alloc (.cells #[.int .u8 5] 5)).below hb3 (HP2.out.alloc (.cells #[.int .u8 5] 5)).lt
         have j0 := hp3.cell 0
         have j1 := hp3.cell 1
         have j2 := hp3.cell 2
         have j3 := hp3.cell 3
         have j4 := hp3.cell 4
         have j5 := hp3.cell 5
         have j6 := hp3.cell 6
         have j7 := hp3.cell 7
         have j8 := hp3.cell 8
         simp only [List.getElem?_cons_zero, List.getElem?_cons_succ] at j0 j1 j2 j3 j4 j5 j6 j7 j8
         have HP3 := Lib.hid hp3
         clear hp3 hb3 hba hr3 m0 m1 m2 m3 m4 m5 m6 m7 m8))
    | (go_at_call 11
       go_must (
         (refine (data_calls T _ fo cut A Ab c cb sh bl (TR.more HB3.out.size _ _ _ (TR.below HB3.out _ _ _ HT.out)) ((HBL.out.below HB3.out).more HB3.out.size) hbc hbm).mono ?_)
         rintro e w4 hdat
         obtain ⟨A1, m1, c1, A2, m2, c2, b, rfl, hb4, hd⟩ := hdat.whole (by omega)
         have HB4 : Hid (Below W.heap.size W w4) := HB3.out.trans (hb4.mono HB3.out.size)
         have hp4 := HP3.out.below hb4 HP3.out.lt
         have k0 := hp4.cell 0
         have k1 := hp4.cell 1
         have k2 := hp4.cell 2
         have k3 := hp4.cell 3
         have k4 := hp4.cell 4
         have k5 := hp4.cell 5
         have k6 := hp4.cell 6
         have k7 := hp4.cell 7
         have k8 := hp4.cell 8
         simp only [List.getElem?_cons_zero, List.getElem?_cons_succ] at k0 k1 k2 k3 k4 k5 k6 k7 k8
         have HD := Lib.hid hd
         have HP4 := Lib.hid hp4
         clear hdat hd hb4 hp4 j0 j1 j2 j3 j4 j5 j6 j7 j8))
    | (go_at_call 19
       go_must (
         (refine (FI16_calls _ T A c HWF.out).mono ?_)
         rintro e w7 ⟨b7, rfl, hb7, hbel7⟩
         have hba5 : Below W.heap.size W (w5.alloc (.cells #[.int .i64 T.k, .int .u64 T.u, .string T.s, .int .i64 T.x, .slice A T.n c] 25)) := HB5.out.alloc HB5.out.size _
         have HB7 : Hid (Below W.heap.size W w7) := hba5.trans (hbel7.mono hba5.size)
         have hpv := (Blk.new w5 25 [.int .i64 T.k, .int .u64 T.u, .string T.s, .int .i64 T.x, .slice A T.n c]).below hbel7 (by simp)
         have v1 := hpv.cell 1
         simp only [List.getElem?_cons_zero, List.getElem?_cons_succ] at v1
         obtain rfl : b7 = false := by cases b7 with | false => rfl | true => exact absurd (hb7.1 rfl) hF
         clear hb7 hpv hba5 l0 l1 l2 l3 l4 l5 l6 l7 l8))
)
  all_goals (
    (try simp only [Exit.inBlock, Exit.then])
    go_ret
    first
      | exact ⟨rfl, HB9.out⟩
      | exact ⟨rfl, HB7.out⟩
      | exact ⟨rfl, HB5.out.alloc HB5.out.size _⟩
      | exact ⟨rfl, HB4.out⟩
      | exact ⟨rfl, HB2.out⟩)
end Go.Proofs.YtlpnaifagiddlaaDoor
