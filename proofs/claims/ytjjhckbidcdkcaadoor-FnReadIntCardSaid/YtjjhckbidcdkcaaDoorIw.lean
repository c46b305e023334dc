/- laws.FnReadInt. PRINTED by wip/geniw.py. -/
import Derived.Test.YtjjhckbidcdkcaaDoorIu
import Derived.Test.YtjjhckbidcdkcaaDoorHm
import Derived.Test.YtjjhckbidcdkcaaDoorIv
namespace Go.Proofs.YtjjhckbidcdkcaaDoor
open Go.RowKit
set_option linter.unusedVariables false

theorem sameInt_calls (T : VT) (W : World) (A : Bool → Option Addr) (c : Bool → Nat) {B : Nat} (h : TV W B T A c) (hB : B ≤ W.heap.size) (hF : FitsV T) (hd : T.n true = 0) (hk : T.k = 8) (hu0 : 0 ≤ T.u) (hu1 : T.u ≤ 18446744073709551615) :
    Calls Tryd.prog 15 #[.agg #[.int .i64 T.k, .int .u64 T.u, .string T.s, .slice (A false) (T.n false) (c false), .int .i64 T.o, .slice (A true) (T.n true) (c true)], .agg #[.int .i64 8, .int .u64 T.u, .string ByteArray.empty, .slice none 0 0, .int .i64 0, .slice none 0 0]] W fun e W' => e = .returned (.bool true) ∧ Below W.heap.size W W' := by
  have h2 : TV W B (.mk 8 T.u ByteArray.empty 0 (fun _ => 0) (fun _ _ => .nil)) (fun _ => none) (fun _ => 0) := by
    refine ⟨⟨by show (-9223372036854775808 : Int) ≤ 8; omega, by show (8 : Int) ≤ 9223372036854775807; omega, hu0, hu1, by show (-9223372036854775808 : Int) ≤ 0; omega, by show (0 : Int) ≤ 9223372036854775807; omega, by show (0 : Nat) ≤ maxLen; omega⟩, fun b => ⟨Nat.le_refl _, Nat.zero_le _, fun h => absurd h (Nat.lt_irrefl 0)⟩⟩
  have hc := sameValue_calls B T (.mk 8 T.u ByteArray.empty 0 (fun _ => 0) (fun _ _ => .nil)) W A (fun _ => none) c (fun _ => 0) h h2 hB
  have hs : sameV T (.mk 8 T.u ByteArray.empty 0 (fun _ => 0) (fun _ _ => .nil)) = true := by
    cases T with
    | nil => exact hF.elim
    | mk k u s o n f =>
      obtain ⟨⟨hfld, _⟩, _⟩ := hF
      obtain ⟨_, _, f3, f4, _⟩ := hfld
      have hk' : k = 8 := hk
      have hn0 : n false = 0 := f3.resolve_left (by omega)
      have hs0 : s = ByteArray.empty := f4.resolve_left (by omega)
      have hd' : n true = 0 := hd
      unfold sameV
      simp only [VT.k, VT.u, VT.s, VT.n, hk', hn0, hs0, hd', decide_true, allB, Bool.and_self, Bool.true_or]
  rw [hs] at hc
  exact hc
set_option maxHeartbeats 4000000 in
set_option maxRecDepth 100000 in
theorem lawI_cut (T : VT) (W : World) (fo cut : Int) (A : Bool → Option Addr) (Ab : Option Addr) (c : Bool → Nat) (cb : Nat) (bl : List Int) (h : TV W W.heap.size T A c) (hU : UT W.heap.size W) (hE : EofS W W.heap.size) (hbl : Reads W W.heap.size 1 Ab bl.length (bs bl)) (hbc : bl.length ≤ cb) (hbm : cb ≤ maxLen) (hbb : ∀ x ∈ bl, 0 ≤ x ∧ x ≤ 255) (hc : 0 < cut) :
    Calls Tryd.prog 4 #[.agg #[.int .i64 T.k, .int .u64 T.u, .string T.s, .slice (A false) (T.n false) (c false), .int .i64 T.o, .slice (A true) (T.n true) (c true), .int .u64 fo, .slice Ab bl.length cb, .int .i64 cut]] W fun e w' => e = .returned (.bool true) ∧ Below W.heap.size W w' := by
  have hp1 : Blk (W.alloc (.cells #[.int .i64 T.k, .int .u64 T.u, .string T.s, .slice (A false) (T.n false) (c false), .int .i64 T.o, .slice (A true) (T.n true) (c true), .int .u64 fo, .slice Ab bl.length cb, .int .i64 cut] 28)) W.heap.size 28 [.int .i64 T.k, .int .u64 T.u, .string T.s, .slice (A false) (T.n false) (c false), .int .i64 T.o, .slice (A true) (T.n true) (c true), .int .u64 fo, .slice Ab bl.length cb, .int .i64 cut] := Blk.new W _ [_, _, _, _, _, _, _, _, _]
  have hbel : Below W.heap.size W (W.alloc (.cells #[.int .i64 T.k, .int .u64 T.u, .string T.s, .slice (A false) (T.n false) (c false), .int .i64 T.o, .slice (A true) (T.n true) (c true), .int .u64 fo, .slice Ab bl.length cb, .int .i64 cut] 28)) := (Below.refl _ W).alloc (Nat.le_refl _) _
  obtain ⟨hu0, hu1⟩ := tv_u h
  have HP1 := Lib.hid hp1
  have HBEL := Lib.hid hbel
  have HT := Lib.hid h
  have HU := Lib.hid hU
  have HEO := Lib.hid hE
  have HBL := Lib.hid hbl
  have HBB := Lib.hid hbb
  have hbm2 : bl.length ≤ 9223372036854775807 := by simp only [maxLen] at hbm; omega
  have HUU := Lib.hid (And.intro hu0 hu1)
  clear hp1 hbel h hU hE hbl hbb hu0 hu1
  go_enter Tryd.func4, Tryd.ntmps4
  go_wp2_with (first
    | (go_at_call 9
       go_must (
         (refine (zzFits1_calls _ T fo cut A c Ab cb bl).mono ?_)
         rintro e w2 ⟨rfl, hb2⟩
         have hp2 := HP1.out.below hb2 HP1.out.lt
         have m0 := hp2.cell 0
         have m1 := hp2.cell 1
         have m2 := hp2.cell 2
         have m3 := hp2.cell 3
         have m4 := hp2.cell 4
         have m5 := hp2.cell 5
         have m6 := hp2.cell 6
         have m7 := hp2.cell 7
         have m8 := hp2.cell 8
         simp only [List.getElem?_cons_zero, List.getElem?_cons_succ] at m0 m1 m2 m3 m4 m5 m6 m7 m8
         have HP2 := Lib.hid hp2
         have HB2 : Hid (Below W.heap.size W w2) := HBEL.out.trans (hb2.mono HBEL.out.size)
         clear hp2 hb2))
    | (go_at_call 13
       go_must (
         (refine (implWriteInt_sample w2).mono ?_)
         rintro e w2' ⟨g0, c0, rfl, hr0, hb0⟩
         have HB0 : Hid (Below W.heap.size W w2') := HB2.out.trans (hb0.mono HB2.out.size)
         have hp0 := HP2.out.below hb0 HP2.out.lt
         have n0 := hp0.cell 0
         have n1 := hp0.cell 1
         have n2 := hp0.cell 2
         have n3 := hp0.cell 3
         have n4 := hp0.cell 4
         have n5 := hp0.cell 5
         have n6 := hp0.cell 6
         have n7 := hp0.cell 7
         have n8 := hp0.cell 8
         simp only [List.getElem?_cons_zero, List.getElem?_cons_succ] at n0 n1 n2 n3 n4 n5 n6 n7 n8
         have HP0 := Lib.hid hp0
         have HR0 := Lib.hid hr0
         clear hp0 hb0 hr0 m0 m1 m2 m3 m4 m5 m6 m7 m8))
    | (go_at_call 14
       first
       | (have HDD := HD.out
          clear HDD
          go_must (
         (have hbt : b = true := by first | assumption | (have hx : (!b) = false := (by assumption); simpa using hx))
         obtain ⟨hfx, enc, hfp, hm, hmc, hcm, hr⟩ := HD.out hbt
         obtain ⟨hF, hcnt, hds, het⟩ := hfx
         have hen := fpv_len hfp hcnt
         obtain ⟨d, hdd⟩ : ∃ d, d = enc.take m1 := ⟨_, rfl⟩
         have hdl : d.length = m1 := by rw [hdd, List.length_take]; omega
         have hdB : IsByt d := fun x hx => hfp.1 x (List.mem_of_mem_take (by rw [hdd] at hx; exact hx))
         have hdn : d.length ≤ 100000000 := by omega
         rw [← hdd, ← hdl] at hr
         have hcl := implReadInt_calls w4 A1 c1 d hr hdn hdB (HEO.out.more HB4.out HB4.out.size) (none) (by rw [hdd]; exact pI_cut m1 hF hds hfp hm)
         rw [hdl] at hcl
         refine hcl.mono ?_
         rintro e w5 ⟨hb5, rfl⟩
         have HB5 : Hid (Below W.heap.size W w5) := HB4.out.trans (hb5.mono HB4.out.size)
         have hp5 := HP4.out.below hb5 HP4.out.lt
         have l0 := hp5.cell 0
         have l1 := hp5.cell 1
         have l2 := hp5.cell 2
         have l3 := hp5.cell 3
         have l4 := hp5.cell 4
         have l5 := hp5.cell 5
         have l6 := hp5.cell 6
         have l7 := hp5.cell 7
         have l8 := hp5.cell 8
         simp only [List.getElem?_cons_zero, List.getElem?_cons_succ] at l0 l1 l2 l3 l4 l5 l6 l7 l8
         skip
         clear hb5 hp5 hcl hr hF hcnt hds het k0 k1 k2 k3 k4 k5 k6 k7 k8))
       | go_must (
         (refine (implReadInt_calls w2' (some ⟨g0, 0, none⟩) c0 [84, 5] HR0.out (by decide) (by unfold IsByt; decide) (HEO.out.more HB0.out HB0.out.size) _ pI_five).mono ?_)
         rintro e w3 ⟨hb3, A0, c0', rfl, hr3⟩
         have HB3 : Hid (Below W.heap.size W w3) := HB0.out.trans (hb3.mono HB0.out.size)
         have hp3 := HP0.out.below hb3 HP0.out.lt
         have j0 := hp3.cell 0
         have j1 := hp3.cell 1
         have j2 := hp3.cell 2
         have j3 := hp3.cell 3
         have j4 := hp3.cell 4
         have j5 := hp3.cell 5
         have j6 := hp3.cell 6
         have j7 := hp3.cell 7
         have j8 := hp3.cell 8
         simp only [List.getElem?_cons_zero, List.getElem?_cons_succ] at j0 j1 j2 j3 j4 j5 j6 j7 j8
         have HP3 := Lib.hid hp3
         clear hp3 hb3 hr3 n0 n1 n2 n3 n4 n5 n6 n7 n8))
    | (go_at_call 11
       go_must (
         (refine (data_calls W.heap.size T _ fo cut A Ab c cb bl (TV.below HB3.out _ _ _ HT.out) HB3.out.size (HU.out.below HB3.out) ((HBL.out.below HB3.out).more HB3.out.size) hbc hbm).mono ?_)
         rintro e w4 hdat
         obtain ⟨A1, m1, c1, b, rfl, hb4, hd⟩ := hdat.cut hc
         have HB4 : Hid (Below W.heap.size W w4) := HB3.out.trans (hb4.mono HB3.out.size)
         have hp4 := HP3.out.below hb4 HP3.out.lt
         have k0 := hp4.cell 0
         have k1 := hp4.cell 1
         have k2 := hp4.cell 2
         have k3 := hp4.cell 3
         have k4 := hp4.cell 4
         have k5 := hp4.cell 5
         have k6 := hp4.cell 6
         have k7 := hp4.cell 7
         have k8 := hp4.cell 8
         simp only [List.getElem?_cons_zero, List.getElem?_cons_succ] at k0 k1 k2 k3 k4 k5 k6 k7 k8
         have HD := Lib.hid hd
         have HP4 := Lib.hid hp4
         clear hdat hd hb4 hp4 j0 j1 j2 j3 j4 j5 j6 j7 j8)))
  all_goals (
    (try simp only [Exit.inBlock, Exit.then])
    go_ret
    first
      | exact ⟨rfl, HB9.out⟩
      | exact ⟨rfl, HB6.out⟩
      | exact ⟨rfl, HB5.out⟩
      | exact ⟨rfl, HB4.out⟩
      | exact ⟨rfl, HB2.out⟩)
set_option maxHeartbeats 4000000 in
set_option maxRecDepth 100000 in
theorem lawI_yes (T : VT) (W : World) (fo cut : Int) (A : Bool → Option Addr) (Ab : Option Addr) (c : Bool → Nat) (cb : Nat) (bl : List Int) (h : TV W W.heap.size T A c) (hU : UT W.heap.size W) (hE : EofS W W.heap.size) (hbl : Reads W W.heap.size 1 Ab bl.length (bs bl)) (hbc : bl.length ≤ cb) (hbm : cb ≤ maxLen) (hbb : ∀ x ∈ bl, 0 ≤ x ∧ x ≤ 255) (hk : T.k = 8) (hc : ¬ 0 < cut) :
    Calls Tryd.prog 4 #[.agg #[.int .i64 T.k, .int .u64 T.u, .string T.s, .slice (A false) (T.n false) (c false), .int .i64 T.o, .slice (A true) (T.n true) (c true), .int .u64 fo, .slice Ab bl.length cb, .int .i64 cut]] W fun e w' => e = .returned (.bool true) ∧ Below W.heap.size W w' := by
  have e8 : (T.k != 8) = false := by rw [hk]; rfl
  have hcv1 : IntKind.i64.wrap (wrap64 T.u) = wrap64 T.u := by rw [wrapQ]; unfold wrap64; omega
  have hcv3 : wrap64 (wrap64 T.u) = wrap64 T.u := by unfold wrap64; omega
  have hcv2 : IntKind.u64.wrap (wrap64 T.u) = T.u := by
    obtain ⟨h0, h1⟩ := tv_u h
    rw [IntKind.wrap_u64]; unfold wrap64; omega
  have HK := Lib.hid hk
  clear hk
  have hp1 : Blk (W.alloc (.cells #[.int .i64 T.k, .int .u64 T.u, .string T.s, .slice (A false) (T.n false) (c false), .int .i64 T.o, .slice (A true) (T.n true) (c true), .int .u64 fo, .slice Ab bl.length cb, .int .i64 cut] 28)) W.heap.size 28 [.int .i64 T.k, .int .u64 T.u, .string T.s, .slice (A false) (T.n false) (c false), .int .i64 T.o, .slice (A true) (T.n true) (c true), .int .u64 fo, .slice Ab bl.length cb, .int .i64 cut] := Blk.new W _ [_, _, _, _, _, _, _, _, _]
  have hbel : Below W.heap.size W (W.alloc (.cells #[.int .i64 T.k, .int .u64 T.u, .string T.s, .slice (A false) (T.n false) (c false), .int .i64 T.o, .slice (A true) (T.n true) (c true), .int .u64 fo, .slice Ab bl.length cb, .int .i64 cut] 28)) := (Below.refl _ W).alloc (Nat.le_refl _) _
  obtain ⟨hu0, hu1⟩ := tv_u h
  have HP1 := Lib.hid hp1
  have HBEL := Lib.hid hbel
  have HT := Lib.hid h
  have HU := Lib.hid hU
  have HEO := Lib.hid hE
  have HBL := Lib.hid hbl
  have HBB := Lib.hid hbb
  have hbm2 : bl.length ≤ 9223372036854775807 := by simp only [maxLen] at hbm; omega
  have HUU := Lib.hid (And.intro hu0 hu1)
  clear hp1 hbel h hU hE hbl hbb hu0 hu1
  go_enter Tryd.func4, Tryd.ntmps4
  go_wp2_with (first
    | (go_at_call 9
       go_must (
         (refine (zzFits1_calls _ T fo cut A c Ab cb bl).mono ?_)
         rintro e w2 ⟨rfl, hb2⟩
         have hp2 := HP1.out.below hb2 HP1.out.lt
         have m0 := hp2.cell 0
         have m1 := hp2.cell 1
         have m2 := hp2.cell 2
         have m3 := hp2.cell 3
         have m4 := hp2.cell 4
         have m5 := hp2.cell 5
         have m6 := hp2.cell 6
         have m7 := hp2.cell 7
         have m8 := hp2.cell 8
         simp only [List.getElem?_cons_zero, List.getElem?_cons_succ] at m0 m1 m2 m3 m4 m5 m6 m7 m8
         have HP2 := Lib.hid hp2
         have HB2 : Hid (Below W.heap.size W w2) := HBEL.out.trans (hb2.mono HBEL.out.size)
         clear hp2 hb2))
    | (go_at_call 13
       go_must (
         (refine (implWriteInt_sample w2).mono ?_)
         rintro e w2' ⟨g0, c0, rfl, hr0, hb0⟩
         have HB0 : Hid (Below W.heap.size W w2') := HB2.out.trans (hb0.mono HB2.out.size)
         have hp0 := HP2.out.below hb0 HP2.out.lt
         have n0 := hp0.cell 0
         have n1 := hp0.cell 1
         have n2 := hp0.cell 2
         have n3 := hp0.cell 3
         have n4 := hp0.cell 4
         have n5 := hp0.cell 5
         have n6 := hp0.cell 6
         have n7 := hp0.cell 7
         have n8 := hp0.cell 8
         simp only [List.getElem?_cons_zero, List.getElem?_cons_succ] at n0 n1 n2 n3 n4 n5 n6 n7 n8
         have HP0 := Lib.hid hp0
         have HR0 := Lib.hid hr0
         clear hp0 hb0 hr0 m0 m1 m2 m3 m4 m5 m6 m7 m8))
    | (go_at_call 14
       first
       | (have HDD := HD.out
          clear HDD
          go_must (
         (have hbt : b = true := by first | assumption | (have hx : (!b) = false := (by assumption); simpa using hx))
         obtain ⟨hfx, h100, hA2, hm2, enc, hfp, hm, hmc, hcm, hr⟩ := HD.out hbt
         obtain ⟨hF, hcnt, hds, het⟩ := hfx
         subst hA2
         subst hm2
         have hen := fpv_len hfp hcnt
         obtain ⟨d, hdd⟩ : ∃ d, d = enc ++ bl := ⟨_, rfl⟩
         have hdl : d.length = m1 := by rw [hdd, hm]
         have hdB : IsByt d := fun x hx => by
           rw [hdd] at hx
           exact (List.mem_append.1 hx).elim (hfp.1 x) (HBB.out x)
         have hdn : d.length ≤ 100000000 := by rw [hdd, List.length_append]; omega
         rw [← hdd, ← hdl] at hr
         have hcl := implReadInt_calls w4 A1 c1 d hr hdn hdB (HEO.out.more HB4.out HB4.out.size) (some (wrap64 T.u, enc.length)) (by rw [hdd]; exact pI_whole bl hF hds hfp HUU.out.1 HUU.out.2 HK.out)
         rw [hdl] at hcl
         refine hcl.mono ?_
         rintro e w5 ⟨hb5, A5, c5, rfl, hr5⟩
         have hj : d.length - enc.length = bl.length := by rw [hdd, List.length_append]; omega
         have hdr : d.drop enc.length = bl := by rw [hdd]; exact List.drop_left
         rw [hj, hdr] at hr5
         rw [hj]
         have HR5 := Lib.hid hr5
         have HB5 : Hid (Below W.heap.size W w5) := HB4.out.trans (hb5.mono HB4.out.size)
         have hp5 := HP4.out.below hb5 HP4.out.lt
         have l0 := hp5.cell 0
         have l1 := hp5.cell 1
         have l2 := hp5.cell 2
         have l3 := hp5.cell 3
         have l4 := hp5.cell 4
         have l5 := hp5.cell 5
         have l6 := hp5.cell 6
         have l7 := hp5.cell 7
         have l8 := hp5.cell 8
         simp only [List.getElem?_cons_zero, List.getElem?_cons_succ] at l0 l1 l2 l3 l4 l5 l6 l7 l8
         have HFI := Lib.hid (And.intro hF hds)
         clear hb5 hp5 hcl hr hF hcnt hds het k0 k1 k2 k3 k4 k5 k6 k7 k8))
       | go_must (
         (refine (implReadInt_calls w2' (some ⟨g0, 0, none⟩) c0 [84, 5] HR0.out (by decide) (by unfold IsByt; decide) (HEO.out.more HB0.out HB0.out.size) _ pI_five).mono ?_)
         rintro e w3 ⟨hb3, A0, c0', rfl, hr3⟩
         have HB3 : Hid (Below W.heap.size W w3) := HB0.out.trans (hb3.mono HB0.out.size)
         have hp3 := HP0.out.below hb3 HP0.out.lt
         have j0 := hp3.cell 0
         have j1 := hp3.cell 1
         have j2 := hp3.cell 2
         have j3 := hp3.cell 3
         have j4 := hp3.cell 4
         have j5 := hp3.cell 5
         have j6 := hp3.cell 6
         have j7 := hp3.cell 7
         have j8 := hp3.cell 8
         simp only [List.getElem?_cons_zero, List.getElem?_cons_succ] at j0 j1 j2 j3 j4 j5 j6 j7 j8
         have HP3 := Lib.hid hp3
         clear hp3 hb3 hr3 n0 n1 n2 n3 n4 n5 n6 n7 n8))
    | (go_at_call 11
       go_must (
         (refine (data_calls W.heap.size T _ fo cut A Ab c cb bl (TV.below HB3.out _ _ _ HT.out) HB3.out.size (HU.out.below HB3.out) ((HBL.out.below HB3.out).more HB3.out.size) hbc hbm).mono ?_)
         rintro e w4 hdat
         obtain ⟨A1, m1, c1, A2, m2, c2, b, rfl, hb4, hd⟩ := hdat.whole (by omega)
         have HB4 : Hid (Below W.heap.size W w4) := HB3.out.trans (hb4.mono HB3.out.size)
         have hp4 := HP3.out.below hb4 HP3.out.lt
         have k0 := hp4.cell 0
         have k1 := hp4.cell 1
         have k2 := hp4.cell 2
         have k3 := hp4.cell 3
         have k4 := hp4.cell 4
         have k5 := hp4.cell 5
         have k6 := hp4.cell 6
         have k7 := hp4.cell 7
         have k8 := hp4.cell 8
         simp only [List.getElem?_cons_zero, List.getElem?_cons_succ] at k0 k1 k2 k3 k4 k5 k6 k7 k8
         have HD := Lib.hid hd
         have HP4 := Lib.hid hp4
         clear hdat hd hb4 hp4 j0 j1 j2 j3 j4 j5 j6 j7 j8))
    | (go_at_call 15
       go_must (
         (have hsv := sameInt_calls T w5 A c (TV.below HB5.out _ _ _ HT.out) HB5.out.size HFI.out.1 HFI.out.2 HK.out HUU.out.1 HUU.out.2)
         refine hsv.mono ?_
         rintro e w6 ⟨rfl, hb6⟩
         have HB6 : Hid (Below W.heap.size W w6) := HB5.out.trans (hb6.mono HB5.out.size)
         have HR6 : Hid (Reads w6 w6.heap.size 1 A5 bl.length (bs bl)) := (HR5.out.below hb6).more hb6.size
         clear hsv hb6))
    | (go_at_call 12
       go_must (
         (refine (left_calls w6 A5 A2 c5 c2 bl HR6.out ((HBL.out.below HB6.out).more HB6.out.size)).mono ?_)
         rintro e w9 ⟨rfl, hb9⟩
         have HB9 : Hid (Below W.heap.size W w9) := HB6.out.trans (hb9.mono HB6.out.size)
         clear hb9)))
  all_goals (
    (try simp only [Exit.inBlock, Exit.then])
    go_ret
    first
      | exact ⟨rfl, HB9.out⟩
      | exact ⟨rfl, HB6.out⟩
      | exact ⟨rfl, HB5.out⟩
      | exact ⟨rfl, HB4.out⟩
      | exact ⟨rfl, HB2.out⟩)
set_option maxHeartbeats 4000000 in
set_option maxRecDepth 100000 in
theorem lawI_no (T : VT) (W : World) (fo cut : Int) (A : Bool → Option Addr) (Ab : Option Addr) (c : Bool → Nat) (cb : Nat) (bl : List Int) (h : TV W W.heap.size T A c) (hU : UT W.heap.size W) (hE : EofS W W.heap.size) (hbl : Reads W W.heap.size 1 Ab bl.length (bs bl)) (hbc : bl.length ≤ cb) (hbm : cb ≤ maxLen) (hbb : ∀ x ∈ bl, 0 ≤ x ∧ x ≤ 255) (hk : T.k ≠ 8) (hc : ¬ 0 < cut) :
    Calls Tryd.prog 4 #[.agg #[.int .i64 T.k, .int .u64 T.u, .string T.s, .slice (A false) (T.n false) (c false), .int .i64 T.o, .slice (A true) (T.n true) (c true), .int .u64 fo, .slice Ab bl.length cb, .int .i64 cut]] W fun e w' => e = .returned (.bool true) ∧ Below W.heap.size W w' := by
  have e8 : (T.k != 8) = true := by simp [hk]
  have HK := Lib.hid hk
  clear hk
  have hp1 : Blk (W.alloc (.cells #[.int .i64 T.k, .int .u64 T.u, .string T.s, .slice (A false) (T.n false) (c false), .int .i64 T.o, .slice (A true) (T.n true) (c true), .int .u64 fo, .slice Ab bl.length cb, .int .i64 cut] 28)) W.heap.size 28 [.int .i64 T.k, .int .u64 T.u, .string T.s, .slice (A false) (T.n false) (c false), .int .i64 T.o, .slice (A true) (T.n true) (c true), .int .u64 fo, .slice Ab bl.length cb, .int .i64 cut] := Blk.new W _ [_, _, _, _, _, _, _, _, _]
  have hbel : Below W.heap.size W (W.alloc (.cells #[.int .i64 T.k, .int .u64 T.u, .string T.s, .slice (A false) (T.n false) (c false), .int .i64 T.o, .slice (A true) (T.n true) (c true), .int .u64 fo, .slice Ab bl.length cb, .int .i64 cut] 28)) := (Below.refl _ W).alloc (Nat.le_refl _) _
  obtain ⟨hu0, hu1⟩ := tv_u h
  have HP1 := Lib.hid hp1
  have HBEL := Lib.hid hbel
  have HT := Lib.hid h
  have HU := Lib.hid hU
  have HEO := Lib.hid hE
  have HBL := Lib.hid hbl
  have HBB := Lib.hid hbb
  have hbm2 : bl.length ≤ 9223372036854775807 := by simp only [maxLen] at hbm; omega
  have HUU := Lib.hid (And.intro hu0 hu1)
  clear hp1 hbel h hU hE hbl hbb hu0 hu1
  go_enter Tryd.func4, Tryd.ntmps4
  go_wp2_with (first
    | (go_at_call 9
       go_must (
         (refine (zzFits1_calls _ T fo cut A c Ab cb bl).mono ?_)
         rintro e w2 ⟨rfl, hb2⟩
         have hp2 := HP1.out.below hb2 HP1.out.lt
         have m0 := hp2.cell 0
         have m1 := hp2.cell 1
         have m2 := hp2.cell 2
         have m3 := hp2.cell 3
         have m4 := hp2.cell 4
         have m5 := hp2.cell 5
         have m6 := hp2.cell 6
         have m7 := hp2.cell 7
         have m8 := hp2.cell 8
         simp only [List.getElem?_cons_zero, List.getElem?_cons_succ] at m0 m1 m2 m3 m4 m5 m6 m7 m8
         have HP2 := Lib.hid hp2
         have HB2 : Hid (Below W.heap.size W w2) := HBEL.out.trans (hb2.mono HBEL.out.size)
         clear hp2 hb2))
    | (go_at_call 13
       go_must (
         (refine (implWriteInt_sample w2).mono ?_)
         rintro e w2' ⟨g0, c0, rfl, hr0, hb0⟩
         have HB0 : Hid (Below W.heap.size W w2') := HB2.out.trans (hb0.mono HB2.out.size)
         have hp0 := HP2.out.below hb0 HP2.out.lt
         have n0 := hp0.cell 0
         have n1 := hp0.cell 1
         have n2 := hp0.cell 2
         have n3 := hp0.cell 3
         have n4 := hp0.cell 4
         have n5 := hp0.cell 5
         have n6 := hp0.cell 6
         have n7 := hp0.cell 7
         have n8 := hp0.cell 8
         simp only [List.getElem?_cons_zero, List.getElem?_cons_succ] at n0 n1 n2 n3 n4 n5 n6 n7 n8
         have HP0 := Lib.hid hp0
         have HR0 := Lib.hid hr0
         clear hp0 hb0 hr0 m0 m1 m2 m3 m4 m5 m6 m7 m8))
    | (go_at_call 14
       first
       | (have HDD := HD.out
          clear HDD
          go_must (
         (have hbt : b = true := by first | assumption | (have hx : (!b) = false := (by assumption); simpa using hx))
         obtain ⟨hfx, h100, hA2, hm2, enc, hfp, hm, hmc, hcm, hr⟩ := HD.out hbt
         obtain ⟨hF, hcnt, hds, het⟩ := hfx
         skip
         skip
         have hen := fpv_len hfp hcnt
         obtain ⟨d, hdd⟩ : ∃ d, d = enc ++ bl := ⟨_, rfl⟩
         have hdl : d.length = m1 := by rw [hdd, hm]
         have hdB : IsByt d := fun x hx => by
           rw [hdd] at hx
           exact (List.mem_append.1 hx).elim (hfp.1 x) (HBB.out x)
         have hdn : d.length ≤ 100000000 := by rw [hdd, List.length_append]; omega
         rw [← hdd, ← hdl] at hr
         have hcl := implReadInt_calls w4 A1 c1 d hr hdn hdB (HEO.out.more HB4.out HB4.out.size) (none) (by rw [hdd]; exact pI_other bl hF hds hfp HK.out)
         rw [hdl] at hcl
         refine hcl.mono ?_
         rintro e w5 ⟨hb5, rfl⟩
         have HB5 : Hid (Below W.heap.size W w5) := HB4.out.trans (hb5.mono HB4.out.size)
         have hp5 := HP4.out.below hb5 HP4.out.lt
         have l0 := hp5.cell 0
         have l1 := hp5.cell 1
         have l2 := hp5.cell 2
         have l3 := hp5.cell 3
         have l4 := hp5.cell 4
         have l5 := hp5.cell 5
         have l6 := hp5.cell 6
         have l7 := hp5.cell 7
         have l8 := hp5.cell 8
         simp only [List.getElem?_cons_zero, List.getElem?_cons_succ] at l0 l1 l2 l3 l4 l5 l6 l7 l8
         skip
         clear hb5 hp5 hcl hr hF hcnt hds het k0 k1 k2 k3 k4 k5 k6 k7 k8))
       | go_must (
         (refine (implReadInt_calls w2' (some ⟨g0, 0, none⟩) c0 [84, 5] HR0.out (by decide) (by unfold IsByt; decide) (HEO.out.more HB0.out HB0.out.size) _ pI_five).mono ?_)
         rintro e w3 ⟨hb3, A0, c0', rfl, hr3⟩
         have HB3 : Hid (Below W.heap.size W w3) := HB0.out.trans (hb3.mono HB0.out.size)
         have hp3 := HP0.out.below hb3 HP0.out.lt
         have j0 := hp3.cell 0
         have j1 := hp3.cell 1
         have j2 := hp3.cell 2
         have j3 := hp3.cell 3
         have j4 := hp3.cell 4
         have j5 := hp3.cell 5
         have j6 := hp3.cell 6
         have j7 := hp3.cell 7
         have j8 := hp3.cell 8
         simp only [List.getElem?_cons_zero, List.getElem?_cons_succ] at j0 j1 j2 j3 j4 j5 j6 j7 j8
         have HP3 := Lib.hid hp3
         clear hp3 hb3 hr3 n0 n1 n2 n3 n4 n5 n6 n7 n8))
    | (go_at_call 11
       go_must (
         (refine (data_calls W.heap.size T _ fo cut A Ab c cb bl (TV.below HB3.out _ _ _ HT.out) HB3.out.size (HU.out.below HB3.out) ((HBL.out.below HB3.out).more HB3.out.size) hbc hbm).mono ?_)
         rintro e w4 hdat
         obtain ⟨A1, m1, c1, A2, m2, c2, b, rfl, hb4, hd⟩ := hdat.whole (by omega)
         have HB4 : Hid (Below W.heap.size W w4) := HB3.out.trans (hb4.mono HB3.out.size)
         have hp4 := HP3.out.below hb4 HP3.out.lt
         have k0 := hp4.cell 0
         have k1 := hp4.cell 1
         have k2 := hp4.cell 2
         have k3 := hp4.cell 3
         have k4 := hp4.cell 4
         have k5 := hp4.cell 5
         have k6 := hp4.cell 6
         have k7 := hp4.cell 7
         have k8 := hp4.cell 8
         simp only [List.getElem?_cons_zero, List.getElem?_cons_succ] at k0 k1 k2 k3 k4 k5 k6 k7 k8
         have HD := Lib.hid hd
         have HP4 := Lib.hid hp4
         clear hdat hd hb4 hp4 j0 j1 j2 j3 j4 j5 j6 j7 j8)))
  all_goals (
    (try simp only [Exit.inBlock, Exit.then])
    go_ret
    first
      | exact ⟨rfl, HB9.out⟩
      | exact ⟨rfl, HB6.out⟩
      | exact ⟨rfl, HB5.out⟩
      | exact ⟨rfl, HB4.out⟩
      | exact ⟨rfl, HB2.out⟩)
theorem lawI_calls (T : VT) (W : World) (fo cut : Int) (A : Bool → Option Addr) (Ab : Option Addr) (c : Bool → Nat) (cb : Nat) (bl : List Int) (h : TV W W.heap.size T A c) (hU : UT W.heap.size W) (hE : EofS W W.heap.size) (hbl : Reads W W.heap.size 1 Ab bl.length (bs bl)) (hbc : bl.length ≤ cb) (hbm : cb ≤ maxLen) (hbb : ∀ x ∈ bl, 0 ≤ x ∧ x ≤ 255) : Calls Tryd.prog 4 #[.agg #[.int .i64 T.k, .int .u64 T.u, .string T.s, .slice (A false) (T.n false) (c false), .int .i64 T.o, .slice (A true) (T.n true) (c true), .int .u64 fo, .slice Ab bl.length cb, .int .i64 cut]] W fun e w' => e = .returned (.bool true) ∧ Below W.heap.size W w' := by
  by_cases hc : 0 < cut
  · exact lawI_cut T W fo cut A Ab c cb bl h hU hE hbl hbc hbm hbb hc
  · by_cases hk : T.k = 8
    · exact lawI_yes T W fo cut A Ab c cb bl h hU hE hbl hbc hbm hbb hk hc
    · exact lawI_no T W fo cut A Ab c cb bl h hU hE hbl hbc hbm hbb hk hc
end Go.Proofs.YtjjhckbidcdkcaaDoor
