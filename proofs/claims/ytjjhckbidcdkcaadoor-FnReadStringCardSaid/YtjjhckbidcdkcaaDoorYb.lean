/- laws.FnReadString. PRINTED by wip/genyb_.py. -/
import Derived.Test.YtjjhckbidcdkcaaDoorIu
import Derived.Test.YtjjhckbidcdkcaaDoorYa
namespace Go.Proofs.YtjjhckbidcdkcaaDoor
open Go.RowKit
set_option linter.unusedVariables false

theorem UT.more {B B' : Nat} {W : World} (h : UT B W) (hB : B ≤ B') : UT B' W := ⟨h.1, Nat.lt_of_lt_of_le h.2.1 hB, Nat.lt_of_lt_of_le h.2.2 hB⟩
set_option maxHeartbeats 4000000 in
set_option maxRecDepth 100000 in
theorem lawS_cut (T : VT) (W : World) (fo cut : Int) (A : Bool → Option Addr) (Ab : Option Addr) (c : Bool → Nat) (cb : Nat) (bl : List Int) (h : TV W W.heap.size T A c) (hU : UT W.heap.size W) (hE : EofS W W.heap.size) (hbl : Reads W W.heap.size 1 Ab bl.length (bs bl)) (hbc : bl.length ≤ cb) (hbm : cb ≤ maxLen) (hbb : ∀ x ∈ bl, 0 ≤ x ∧ x ≤ 255) (hc : 0 < cut) :
    Calls Tryd.prog 5 #[.agg #[.int .i64 T.k, .int .u64 T.u, .string T.s, .slice (A false) (T.n false) (c false), .int .i64 T.o, .slice (A true) (T.n true) (c true), .int .u64 fo, .slice Ab bl.length cb, .int .i64 cut]] W fun e w' => e = .returned (.bool true) ∧ Below W.heap.size W w' := by
  have hs97 : strOfNums [97] = ⟨#[97]⟩ := rfl
  have hp1 : Blk (W.alloc (.cells #[.int .i64 T.k, .int .u64 T.u, .string T.s, .slice (A false) (T.n false) (c false), .int .i64 T.o, .slice (A true) (T.n true) (c true), .int .u64 fo, .slice Ab bl.length cb, .int .i64 cut] 28)) W.heap.size 28 [.int .i64 T.k, .int .u64 T.u, .string T.s, .slice (A false) (T.n false) (c false), .int .i64 T.o, .slice (A true) (T.n true) (c true), .int .u64 fo, .slice Ab bl.length cb, .int .i64 cut] := Blk.new W _ [_, _, _, _, _, _, _, _, _]
  have hbel : Below W.heap.size W (W.alloc (.cells #[.int .i64 T.k, .int .u64 T.u, .string T.s, .slice (A false) (T.n false) (c false), .int .i64 T.o, .slice (A true) (T.n true) (c true), .int .u64 fo, .slice Ab bl.length cb, .int .i64 cut] 28)) := (Below.refl _ W).alloc (Nat.le_refl _) _
  obtain ⟨hu0, hu1⟩ := tv_u h
  have HP1 := Lib.hid hp1
  have HBEL := Lib.hid hbel
  have HT := Lib.hid h
  have HU := Lib.hid hU
  have HEO := Lib.hid hE
  have HBL := Lib.hid hbl
  have HBB := Lib.hid hbb
  have hbm2 : bl.length ≤ 9223372036854775807 := by simp only [maxLen] at hbm; omega
  have HUU := Lib.hid (And.intro hu0 hu1)
  clear hp1 hbel h hU hE hbl hbb hu0 hu1
  go_enter Tryd.func5, Tryd.ntmps5
  go_wp2_with (first
    | (go_at_call 9
       go_must (
         (refine (zzFits1_calls _ T fo cut A c Ab cb bl).mono ?_)
         rintro e w2 ⟨rfl, hb2⟩
         have hp2 := HP1.out.below hb2 HP1.out.lt
         have m0 := hp2.cell 0
         have m1 := hp2.cell 1
         have m2 := hp2.cell 2
         have m3 := hp2.cell 3
         have m4 := hp2.cell 4
         have m5 := hp2.cell 5
         have m6 := hp2.cell 6
         have m7 := hp2.cell 7
         have m8 := hp2.cell 8
         simp only [List.getElem?_cons_zero, List.getElem?_cons_succ] at m0 m1 m2 m3 m4 m5 m6 m7 m8
         have HP2 := Lib.hid hp2
         have HB2 : Hid (Below W.heap.size W w2) := HBEL.out.trans (hb2.mono HBEL.out.size)
         clear hp2 hb2))
    | (go_at_call 16
       go_must (
         (refine (implWriteString_sample w2 ((HU.out.below HB2.out).more HB2.out.size)).mono ?_)
         rintro e w2' ⟨g0, c0, rfl, hr0, hb0⟩
         have HB0 : Hid (Below W.heap.size W w2') := HB2.out.trans (hb0.mono HB2.out.size)
         have hp0 := HP2.out.below hb0 HP2.out.lt
         have n0 := hp0.cell 0
         have n1 := hp0.cell 1
         have n2 := hp0.cell 2
         have n3 := hp0.cell 3
         have n4 := hp0.cell 4
         have n5 := hp0.cell 5
         have n6 := hp0.cell 6
         have n7 := hp0.cell 7
         have n8 := hp0.cell 8
         simp only [List.getElem?_cons_zero, List.getElem?_cons_succ] at n0 n1 n2 n3 n4 n5 n6 n7 n8
         have HP0 := Lib.hid hp0
         have HR0 := Lib.hid hr0
         clear hp0 hb0 hr0 m0 m1 m2 m3 m4 m5 m6 m7 m8))
    | (go_at_call 17
       first
       | (have HDD := HD.out
          clear HDD
          go_must (
         (have hbt : b = true := by first | assumption | (have hx : (!b) = false := (by assumption); simpa using hx))
         obtain ⟨hfx, enc, hfp, hm, hmc, hcm, hr⟩ := HD.out hbt
         obtain ⟨hF, hcnt, hds, het⟩ := hfx
         have hen := fpv_len hfp hcnt
         obtain ⟨d, hdd⟩ : ∃ d, d = enc.take m1 := ⟨_, rfl⟩
         have hdl : d.length = m1 := by rw [hdd, List.length_take]; omega
         have hdB : IsByt d := fun x hx => hfp.1 x (List.mem_of_mem_take (by rw [hdd] at hx; exact hx))
         have hdn : d.length ≤ 100000000 := by omega
         rw [← hdd, ← hdl] at hr
         have hcl := implReadString_calls w4 A1 c1 d hr hdn hdB (HEO.out.more HB4.out HB4.out.size) (none) (by rw [hdd]; exact pS_cut m1 hF hds hfp hm)
         rw [hdl] at hcl
         refine hcl.mono ?_
         rintro e w5 ⟨hb5, rfl⟩
         have HB5 : Hid (Below W.heap.size W w5) := HB4.out.trans (hb5.mono HB4.out.size)
         have hp5 := HP4.out.below hb5 HP4.out.lt
         have l0 := hp5.cell 0
         have l1 := hp5.cell 1
         have l2 := hp5.cell 2
         have l3 := hp5.cell 3
         have l4 := hp5.cell 4
         have l5 := hp5.cell 5
         have l6 := hp5.cell 6
         have l7 := hp5.cell 7
         have l8 := hp5.cell 8
         simp only [List.getElem?_cons_zero, List.getElem?_cons_succ] at l0 l1 l2 l3 l4 l5 l6 l7 l8
         skip
         clear hb5 hp5 hcl hr hF hcnt hds het k0 k1 k2 k3 k4 k5 k6 k7 k8))
       | go_must (
         (refine (implReadString_calls w2' (some ⟨g0, 0, none⟩) c0 [161, 1, 97] HR0.out (by decide) (by unfold IsByt; decide) (HEO.out.more HB0.out HB0.out.size) _ pS_a).mono ?_)
         rintro e w3 ⟨hb3, A0, c0', rfl, hr3⟩
         have HB3 : Hid (Below W.heap.size W w3) := HB0.out.trans (hb3.mono HB0.out.size)
         have hp3 := HP0.out.below hb3 HP0.out.lt
         have j0 := hp3.cell 0
         have j1 := hp3.cell 1
         have j2 := hp3.cell 2
         have j3 := hp3.cell 3
         have j4 := hp3.cell 4
         have j5 := hp3.cell 5
         have j6 := hp3.cell 6
         have j7 := hp3.cell 7
         have j8 := hp3.cell 8
         simp only [List.getElem?_cons_zero, List.getElem?_cons_succ] at j0 j1 j2 j3 j4 j5 j6 j7 j8
         have HP3 := Lib.hid hp3
         clear hp3 hb3 hr3 n0 n1 n2 n3 n4 n5 n6 n7 n8))
    | (go_at_call 11
       go_must (
         (refine (data_calls W.heap.size T _ fo cut A Ab c cb bl (TV.below HB3.out _ _ _ HT.out) HB3.out.size (HU.out.below HB3.out) ((HBL.out.below HB3.out).more HB3.out.size) hbc hbm).mono ?_)
         rintro e w4 hdat
         obtain ⟨A1, m1, c1, b, rfl, hb4, hd⟩ := hdat.cut hc
         have HB4 : Hid (Below W.heap.size W w4) := HB3.out.trans (hb4.mono HB3.out.size)
         have hp4 := HP3.out.below hb4 HP3.out.lt
         have k0 := hp4.cell 0
         have k1 := hp4.cell 1
         have k2 := hp4.cell 2
         have k3 := hp4.cell 3
         have k4 := hp4.cell 4
         have k5 := hp4.cell 5
         have k6 := hp4.cell 6
         have k7 := hp4.cell 7
         have k8 := hp4.cell 8
         simp only [List.getElem?_cons_zero, List.getElem?_cons_succ] at k0 k1 k2 k3 k4 k5 k6 k7 k8
         have HD := Lib.hid hd
         have HP4 := Lib.hid hp4
         clear hdat hd hb4 hp4 j0 j1 j2 j3 j4 j5 j6 j7 j8)))
  all_goals (
    (try simp only [Exit.inBlock, Exit.then])
    go_ret
    first
      | exact ⟨rfl, HB9.out⟩
      | exact ⟨rfl, HB6.out⟩
      | exact ⟨rfl, HB5.out⟩
      | exact ⟨rfl, HB4.out⟩
      | exact ⟨rfl, HB2.out⟩)
set_option maxHeartbeats 4000000 in
set_option maxRecDepth 100000 in
theorem lawS_19 (T : VT) (W : World) (fo cut : Int) (A : Bool → Option Addr) (Ab : Option Addr) (c : Bool → Nat) (cb : Nat) (bl : List Int) (h : TV W W.heap.size T A c) (hU : UT W.heap.size W) (hE : EofS W W.heap.size) (hbl : Reads W W.heap.size 1 Ab bl.length (bs bl)) (hbc : bl.length ≤ cb) (hbm : cb ≤ maxLen) (hbb : ∀ x ∈ bl, 0 ≤ x ∧ x ≤ 255) (hk : T.k = 19) (hc : ¬ 0 < cut) :
    Calls Tryd.prog 5 #[.agg #[.int .i64 T.k, .int .u64 T.u, .string T.s, .slice (A false) (T.n false) (c false), .int .i64 T.o, .slice (A true) (T.n true) (c true), .int .u64 fo, .slice Ab bl.length cb, .int .i64 cut]] W fun e w' => e = .returned (.bool true) ∧ Below W.heap.size W w' := by
  have hs97 : strOfNums [97] = ⟨#[97]⟩ := rfl
  have e19 : (T.k != 19) = false := by rw [hk]; rfl
  have e20 : (T.k != 20) = true := by rw [hk]; rfl
  have hts := txt_str T.s
  have HK := Lib.hid hk
  clear hk
  have hp1 : Blk (W.alloc (.cells #[.int .i64 T.k, .int .u64 T.u, .string T.s, .slice (A false) (T.n false) (c false), .int .i64 T.o, .slice (A true) (T.n true) (c true), .int .u64 fo, .slice Ab bl.length cb, .int .i64 cut] 28)) W.heap.size 28 [.int .i64 T.k, .int .u64 T.u, .string T.s, .slice (A false) (T.n false) (c false), .int .i64 T.o, .slice (A true) (T.n true) (c true), .int .u64 fo, .slice Ab bl.length cb, .int .i64 cut] := Blk.new W _ [_, _, _, _, _, _, _, _, _]
  have hbel : Below W.heap.size W (W.alloc (.cells #[.int .i64 T.k, .int .u64 T.u, .string T.s, .slice (A false) (T.n false) (c false), .int .i64 T.o, .slice (A true) (T.n true) (c true), .int .u64 fo, .slice Ab bl.length cb, .int .i64 cut] 28)) := (Below.refl _ W).alloc (Nat.le_refl _) _
  obtain ⟨hu0, hu1⟩ := tv_u h
  have HP1 := Lib.hid hp1
  have HBEL := Lib.hid hbel
  have HT := Lib.hid h
  have HU := Lib.hid hU
  have HEO := Lib.hid hE
  have HBL := Lib.hid hbl
  have HBB := Lib.hid hbb
  have hbm2 : bl.length ≤ 9223372036854775807 := by simp only [maxLen] at hbm; omega
  have HUU := Lib.hid (And.intro hu0 hu1)
  clear hp1 hbel h hU hE hbl hbb hu0 hu1
  go_enter Tryd.func5, Tryd.ntmps5
  go_wp2_with (first
    | (go_at_call 9
       go_must (
         (refine (zzFits1_calls _ T fo cut A c Ab cb bl).mono ?_)
         rintro e w2 ⟨rfl, hb2⟩
         have hp2 := HP1.out.below hb2 HP1.out.lt
         have m0 := hp2.cell 0
         have m1 := hp2.cell 1
         have m2 := hp2.cell 2
         have m3 := hp2.cell 3
         have m4 := hp2.cell 4
         have m5 := hp2.cell 5
         have m6 := hp2.cell 6
         have m7 := hp2.cell 7
         have m8 := hp2.cell 8
         simp only [List.getElem?_cons_zero, List.getElem?_cons_succ] at m0 m1 m2 m3 m4 m5 m6 m7 m8
         have HP2 := Lib.hid hp2
         have HB2 : Hid (Below W.heap.size W w2) := HBEL.out.trans (hb2.mono HBEL.out.size)
         clear hp2 hb2))
    | (go_at_call 16
       go_must (
         (refine (implWriteString_sample w2 ((HU.out.below HB2.out).more HB2.out.size)).mono ?_)
         rintro e w2' ⟨g0, c0, rfl, hr0, hb0⟩
         have HB0 : Hid (Below W.heap.size W w2') := HB2.out.trans (hb0.mono HB2.out.size)
         have hp0 := HP2.out.below hb0 HP2.out.lt
         have n0 := hp0.cell 0
         have n1 := hp0.cell 1
         have n2 := hp0.cell 2
         have n3 := hp0.cell 3
         have n4 := hp0.cell 4
         have n5 := hp0.cell 5
         have n6 := hp0.cell 6
         have n7 := hp0.cell 7
         have n8 := hp0.cell 8
         simp only [List.getElem?_cons_zero, List.getElem?_cons_succ] at n0 n1 n2 n3 n4 n5 n6 n7 n8
         have HP0 := Lib.hid hp0
         have HR0 := Lib.hid hr0
         clear hp0 hb0 hr0 m0 m1 m2 m3 m4 m5 m6 m7 m8))
    | (go_at_call 17
       first
       | (have HDD := HD.out
          clear HDD
          go_must (
         (have hbt : b = true := by first | assumption | (have hx : (!b) = false := (by assumption); simpa using hx))
         obtain ⟨hfx, h100, hA2, hm2, enc, hfp, hm, hmc, hcm, hr⟩ := HD.out hbt
         obtain ⟨hF, hcnt, hds, het⟩ := hfx
         subst hA2
         subst hm2
         have hen := fpv_len hfp hcnt
         obtain ⟨d, hdd⟩ : ∃ d, d = enc ++ bl := ⟨_, rfl⟩
         have hdl : d.length = m1 := by rw [hdd, hm]
         have hdB : IsByt d := fun x hx => by
           rw [hdd] at hx
           exact (List.mem_append.1 hx).elim (hfp.1 x) (HBB.out x)
         have hdn : d.length ≤ 100000000 := by rw [hdd, List.length_append]; omega
         rw [← hdd, ← hdl] at hr
         have hcl := implReadString_calls w4 A1 c1 d hr hdn hdB (HEO.out.more HB4.out HB4.out.size) (some (txtL T.s, enc.length)) (by rw [hdd]; exact pS_whole bl hF hds hfp (.inl HK.out))
         rw [hdl] at hcl
         refine hcl.mono ?_
         rintro e w5 ⟨hb5, A5, c5, rfl, hr5⟩
         have hj : d.length - enc.length = bl.length := by rw [hdd, List.length_append]; omega
         have hdr : d.drop enc.length = bl := by rw [hdd]; exact List.drop_left
         rw [hj, hdr] at hr5
         rw [hj]
         have HR5 := Lib.hid hr5
         have HB5 : Hid (Below W.heap.size W w5) := HB4.out.trans (hb5.mono HB4.out.size)
         have hp5 := HP4.out.below hb5 HP4.out.lt
         have l0 := hp5.cell 0
         have l1 := hp5.cell 1
         have l2 := hp5.cell 2
         have l3 := hp5.cell 3
         have l4 := hp5.cell 4
         have l5 := hp5.cell 5
         have l6 := hp5.cell 6
         have l7 := hp5.cell 7
         have l8 := hp5.cell 8
         simp only [List.getElem?_cons_zero, List.getElem?_cons_succ] at l0 l1 l2 l3 l4 l5 l6 l7 l8
         have HFI := Lib.hid (And.intro hF hds)
         clear hb5 hp5 hcl hr hF hcnt hds het k0 k1 k2 k3 k4 k5 k6 k7 k8))
       | go_must (
         (refine (implReadString_calls w2' (some ⟨g0, 0, none⟩) c0 [161, 1, 97] HR0.out (by decide) (by unfold IsByt; decide) (HEO.out.more HB0.out HB0.out.size) _ pS_a).mono ?_)
         rintro e w3 ⟨hb3, A0, c0', rfl, hr3⟩
         have HB3 : Hid (Below W.heap.size W w3) := HB0.out.trans (hb3.mono HB0.out.size)
         have hp3 := HP0.out.below hb3 HP0.out.lt
         have j0 := hp3.cell 0
         have j1 := hp3.cell 1
         have j2 := hp3.cell 2
         have j3 := hp3.cell 3
         have j4 := hp3.cell 4
         have j5 := hp3.cell 5
         have j6 := hp3.cell 6
         have j7 := hp3.cell 7
         have j8 := hp3.cell 8
         simp only [List.getElem?_cons_zero, List.getElem?_cons_succ] at j0 j1 j2 j3 j4 j5 j6 j7 j8
         have HP3 := Lib.hid hp3
         clear hp3 hb3 hr3 n0 n1 n2 n3 n4 n5 n6 n7 n8))
    | (go_at_call 11
       go_must (
         (refine (data_calls W.heap.size T _ fo cut A Ab c cb bl (TV.below HB3.out _ _ _ HT.out) HB3.out.size (HU.out.below HB3.out) ((HBL.out.below HB3.out).more HB3.out.size) hbc hbm).mono ?_)
         rintro e w4 hdat
         obtain ⟨A1, m1, c1, A2, m2, c2, b, rfl, hb4, hd⟩ := hdat.whole (by omega)
         have HB4 : Hid (Below W.heap.size W w4) := HB3.out.trans (hb4.mono HB3.out.size)
         have hp4 := HP3.out.below hb4 HP3.out.lt
         have k0 := hp4.cell 0
         have k1 := hp4.cell 1
         have k2 := hp4.cell 2
         have k3 := hp4.cell 3
         have k4 := hp4.cell 4
         have k5 := hp4.cell 5
         have k6 := hp4.cell 6
         have k7 := hp4.cell 7
         have k8 := hp4.cell 8
         simp only [List.getElem?_cons_zero, List.getElem?_cons_succ] at k0 k1 k2 k3 k4 k5 k6 k7 k8
         have HD := Lib.hid hd
         have HP4 := Lib.hid hp4
         clear hdat hd hb4 hp4 j0 j1 j2 j3 j4 j5 j6 j7 j8))
    | (go_at_call 12
       go_must (
         (refine (left_calls w5 A5 A2 c5 c2 bl HR5.out ((HBL.out.below HB5.out).more HB5.out.size)).mono ?_)
         rintro e w9 ⟨rfl, hb9⟩
         have HB9 : Hid (Below W.heap.size W w9) := HB5.out.trans (hb9.mono HB5.out.size)
         clear hb9)))
  all_goals (
    (try simp only [Exit.inBlock, Exit.then])
    go_ret
    first
      | exact ⟨rfl, HB9.out⟩
      | exact ⟨rfl, HB6.out⟩
      | exact ⟨rfl, HB5.out⟩
      | exact ⟨rfl, HB4.out⟩
      | exact ⟨rfl, HB2.out⟩)
set_option maxHeartbeats 4000000 in
set_option maxRecDepth 100000 in
theorem lawS_20 (T : VT) (W : World) (fo cut : Int) (A : Bool → Option Addr) (Ab : Option Addr) (c : Bool → Nat) (cb : Nat) (bl : List Int) (h : TV W W.heap.size T A c) (hU : UT W.heap.size W) (hE : EofS W W.heap.size) (hbl : Reads W W.heap.size 1 Ab bl.length (bs bl)) (hbc : bl.length ≤ cb) (hbm : cb ≤ maxLen) (hbb : ∀ x ∈ bl, 0 ≤ x ∧ x ≤ 255) (hk : T.k = 20) (hc : ¬ 0 < cut) :
    Calls Tryd.prog 5 #[.agg #[.int .i64 T.k, .int .u64 T.u, .string T.s, .slice (A false) (T.n false) (c false), .int .i64 T.o, .slice (A true) (T.n true) (c true), .int .u64 fo, .slice Ab bl.length cb, .int .i64 cut]] W fun e w' => e = .returned (.bool true) ∧ Below W.heap.size W w' := by
  have hs97 : strOfNums [97] = ⟨#[97]⟩ := rfl
  have e19 : (T.k != 19) = true := by rw [hk]; rfl
  have e20 : (T.k != 20) = false := by rw [hk]; rfl
  have hts := txt_str T.s
  have HK := Lib.hid hk
  clear hk
  have hp1 : Blk (W.alloc (.cells #[.int .i64 T.k, .int .u64 T.u, .string T.s, .slice (A false) (T.n false) (c false), .int .i64 T.o, .slice (A true) (T.n true) (c true), .int .u64 fo, .slice Ab bl.length cb, .int .i64 cut] 28)) W.heap.size 28 [.int .i64 T.k, .int .u64 T.u, .string T.s, .slice (A false) (T.n false) (c false), .int .i64 T.o, .slice (A true) (T.n true) (c true), .int .u64 fo, .slice Ab bl.length cb, .int .i64 cut] := Blk.new W _ [_, _, _, _, _, _, _, _, _]
  have hbel : Below W.heap.size W (W.alloc (.cells #[.int .i64 T.k, .int .u64 T.u, .string T.s, .slice (A false) (T.n false) (c false), .int .i64 T.o, .slice (A true) (T.n true) (c true), .int .u64 fo, .slice Ab bl.length cb, .int .i64 cut] 28)) := (Below.refl _ W).alloc (Nat.le_refl _) _
  obtain ⟨hu0, hu1⟩ := tv_u h
  have HP1 := Lib.hid hp1
  have HBEL := Lib.hid hbel
  have HT := Lib.hid h
  have HU := Lib.hid hU
  have HEO := Lib.hid hE
  have HBL := Lib.hid hbl
  have HBB := Lib.hid hbb
  have hbm2 : bl.length ≤ 9223372036854775807 := by simp only [maxLen] at hbm; omega
  have HUU := Lib.hid (And.intro hu0 hu1)
  clear hp1 hbel h hU hE hbl hbb hu0 hu1
  go_enter Tryd.func5, Tryd.ntmps5
  go_wp2_with (first
    | (go_at_call 9
       go_must (
         (refine (zzFits1_calls _ T fo cut A c Ab cb bl).mono ?_)
         rintro e w2 ⟨rfl, hb2⟩
         have hp2 := HP1.out.below hb2 HP1.out.lt
         have m0 := hp2.cell 0
         have m1 := hp2.cell 1
         have m2 := hp2.cell 2
         have m3 := hp2.cell 3
         have m4 := hp2.cell 4
         have m5 := hp2.cell 5
         have m6 := hp2.cell 6
         have m7 := hp2.cell 7
         have m8 := hp2.cell 8
         simp only [List.getElem?_cons_zero, List.getElem?_cons_succ] at m0 m1 m2 m3 m4 m5 m6 m7 m8
         have HP2 := Lib.hid hp2
         have HB2 : Hid (Below W.heap.size W w2) := HBEL.out.trans (hb2.mono HBEL.out.size)
         clear hp2 hb2))
    | (go_at_call 16
       go_must (
         (refine (implWriteString_sample w2 ((HU.out.below HB2.out).more HB2.out.size)).mono ?_)
         rintro e w2' ⟨g0, c0, rfl, hr0, hb0⟩
         have HB0 : Hid (Below W.heap.size W w2') := HB2.out.trans (hb0.mono HB2.out.size)
         have hp0 := HP2.out.below hb0 HP2.out.lt
         have n0 := hp0.cell 0
         have n1 := hp0.cell 1
         have n2 := hp0.cell 2
         have n3 := hp0.cell 3
         have n4 := hp0.cell 4
         have n5 := hp0.cell 5
         have n6 := hp0.cell 6
         have n7 := hp0.cell 7
         have n8 := hp0.cell 8
         simp only [List.getElem?_cons_zero, List.getElem?_cons_succ] at n0 n1 n2 n3 n4 n5 n6 n7 n8
         have HP0 := Lib.hid hp0
         have HR0 := Lib.hid hr0
         clear hp0 hb0 hr0 m0 m1 m2 m3 m4 m5 m6 m7 m8))
    | (go_at_call 17
       first
       | (have HDD := HD.out
          clear HDD
          go_must (
         (have hbt : b = true := by first | assumption | (have hx : (!b) = false := (by assumption); simpa using hx))
         obtain ⟨hfx, h100, hA2, hm2, enc, hfp, hm, hmc, hcm, hr⟩ := HD.out hbt
         obtain ⟨hF, hcnt, hds, het⟩ := hfx
         subst hA2
         subst hm2
         have hen := fpv_len hfp hcnt
         obtain ⟨d, hdd⟩ : ∃ d, d = enc ++ bl := ⟨_, rfl⟩
         have hdl : d.length = m1 := by rw [hdd, hm]
         have hdB : IsByt d := fun x hx => by
           rw [hdd] at hx
           exact (List.mem_append.1 hx).elim (hfp.1 x) (HBB.out x)
         have hdn : d.length ≤ 100000000 := by rw [hdd, List.length_append]; omega
         rw [← hdd, ← hdl] at hr
         have hcl := implReadString_calls w4 A1 c1 d hr hdn hdB (HEO.out.more HB4.out HB4.out.size) (some (txtL T.s, enc.length)) (by rw [hdd]; exact pS_whole bl hF hds hfp (.inr HK.out))
         rw [hdl] at hcl
         refine hcl.mono ?_
         rintro e w5 ⟨hb5, A5, c5, rfl, hr5⟩
         have hj : d.length - enc.length = bl.length := by rw [hdd, List.length_append]; omega
         have hdr : d.drop enc.length = bl := by rw [hdd]; exact List.drop_left
         rw [hj, hdr] at hr5
         rw [hj]
         have HR5 := Lib.hid hr5
         have HB5 : Hid (Below W.heap.size W w5) := HB4.out.trans (hb5.mono HB4.out.size)
         have hp5 := HP4.out.below hb5 HP4.out.lt
         have l0 := hp5.cell 0
         have l1 := hp5.cell 1
         have l2 := hp5.cell 2
         have l3 := hp5.cell 3
         have l4 := hp5.cell 4
         have l5 := hp5.cell 5
         have l6 := hp5.cell 6
         have l7 := hp5.cell 7
         have l8 := hp5.cell 8
         simp only [List.getElem?_cons_zero, List.getElem?_cons_succ] at l0 l1 l2 l3 l4 l5 l6 l7 l8
         have HFI := Lib.hid (And.intro hF hds)
         clear hb5 hp5 hcl hr hF hcnt hds het k0 k1 k2 k3 k4 k5 k6 k7 k8))
       | go_must (
         (refine (implReadString_calls w2' (some ⟨g0, 0, none⟩) c0 [161, 1, 97] HR0.out (by decide) (by unfold IsByt; decide) (HEO.out.more HB0.out HB0.out.size) _ pS_a).mono ?_)
         rintro e w3 ⟨hb3, A0, c0', rfl, hr3⟩
         have HB3 : Hid (Below W.heap.size W w3) := HB0.out.trans (hb3.mono HB0.out.size)
         have hp3 := HP0.out.below hb3 HP0.out.lt
         have j0 := hp3.cell 0
         have j1 := hp3.cell 1
         have j2 := hp3.cell 2
         have j3 := hp3.cell 3
         have j4 := hp3.cell 4
         have j5 := hp3.cell 5
         have j6 := hp3.cell 6
         have j7 := hp3.cell 7
         have j8 := hp3.cell 8
         simp only [List.getElem?_cons_zero, List.getElem?_cons_succ] at j0 j1 j2 j3 j4 j5 j6 j7 j8
         have HP3 := Lib.hid hp3
         clear hp3 hb3 hr3 n0 n1 n2 n3 n4 n5 n6 n7 n8))
    | (go_at_call 11
       go_must (
         (refine (data_calls W.heap.size T _ fo cut A Ab c cb bl (TV.below HB3.out _ _ _ HT.out) HB3.out.size (HU.out.below HB3.out) ((HBL.out.below HB3.out).more HB3.out.size) hbc hbm).mono ?_)
         rintro e w4 hdat
         obtain ⟨A1, m1, c1, A2, m2, c2, b, rfl, hb4, hd⟩ := hdat.whole (by omega)
         have HB4 : Hid (Below W.heap.size W w4) := HB3.out.trans (hb4.mono HB3.out.size)
         have hp4 := HP3.out.below hb4 HP3.out.lt
         have k0 := hp4.cell 0
         have k1 := hp4.cell 1
         have k2 := hp4.cell 2
         have k3 := hp4.cell 3
         have k4 := hp4.cell 4
         have k5 := hp4.cell 5
         have k6 := hp4.cell 6
         have k7 := hp4.cell 7
         have k8 := hp4.cell 8
         simp only [List.getElem?_cons_zero, List.getElem?_cons_succ] at k0 k1 k2 k3 k4 k5 k6 k7 k8
         have HD := Lib.hid hd
         have HP4 := Lib.hid hp4
         clear hdat hd hb4 hp4 j0 j1 j2 j3 j4 j5 j6 j7 j8))
    | (go_at_call 12
       go_must (
         (refine (left_calls w5 A5 A2 c5 c2 bl HR5.out ((HBL.out.below HB5.out).more HB5.out.size)).mono ?_)
         rintro e w9 ⟨rfl, hb9⟩
         have HB9 : Hid (Below W.heap.size W w9) := HB5.out.trans (hb9.mono HB5.out.size)
         clear hb9)))
  all_goals (
    (try simp only [Exit.inBlock, Exit.then])
    go_ret
    first
      | exact ⟨rfl, HB9.out⟩
      | exact ⟨rfl, HB6.out⟩
      | exact ⟨rfl, HB5.out⟩
      | exact ⟨rfl, HB4.out⟩
      | exact ⟨rfl, HB2.out⟩)
set_option maxHeartbeats 4000000 in
set_option maxRecDepth 100000 in
theorem lawS_no (T : VT) (W : World) (fo cut : Int) (A : Bool → Option Addr) (Ab : Option Addr) (c : Bool → Nat) (cb : Nat) (bl : List Int) (h : TV W W.heap.size T A c) (hU : UT W.heap.size W) (hE : EofS W W.heap.size) (hbl : Reads W W.heap.size 1 Ab bl.length (bs bl)) (hbc : bl.length ≤ cb) (hbm : cb ≤ maxLen) (hbb : ∀ x ∈ bl, 0 ≤ x ∧ x ≤ 255) (hk : T.k ≠ 19 ∧ T.k ≠ 20) (hc : ¬ 0 < cut) :
    Calls Tryd.prog 5 #[.agg #[.int .i64 T.k, .int .u64 T.u, .string T.s, .slice (A false) (T.n false) (c false), .int .i64 T.o, .slice (A true) (T.n true) (c true), .int .u64 fo, .slice Ab bl.length cb, .int .i64 cut]] W fun e w' => e = .returned (.bool true) ∧ Below W.heap.size W w' := by
  have hs97 : strOfNums [97] = ⟨#[97]⟩ := rfl
  have e19 : (T.k != 19) = true := by simp [hk.1]
  have e20 : (T.k != 20) = true := by simp [hk.2]
  have HK := Lib.hid hk
  clear hk
  have hp1 : Blk (W.alloc (.cells #[.int .i64 T.k, .int .u64 T.u, .string T.s, .slice (A false) (T.n false) (c false), .int .i64 T.o, .slice (A true) (T.n true) (c true), .int .u64 fo, .slice Ab bl.length cb, .int .i64 cut] 28)) W.heap.size 28 [.int .i64 T.k, .int .u64 T.u, .string T.s, .slice (A false) (T.n false) (c false), .int .i64 T.o, .slice (A true) (T.n true) (c true), .int .u64 fo, .slice Ab bl.length cb, .int .i64 cut] := Blk.new W _ [_, _, _, _, _, _, _, _, _]
  have hbel : Below W.heap.size W (W.alloc (.cells #[.int .i64 T.k, .int .u64 T.u, .string T.s, .slice (A false) (T.n false) (c false), .int .i64 T.o, .slice (A true) (T.n true) (c true), .int .u64 fo, .slice Ab bl.length cb, .int .i64 cut] 28)) := (Below.refl _ W).alloc (Nat.le_refl _) _
  obtain ⟨hu0, hu1⟩ := tv_u h
  have HP1 := Lib.hid hp1
  have HBEL := Lib.hid hbel
  have HT := Lib.hid h
  have HU := Lib.hid hU
  have HEO := Lib.hid hE
  have HBL := Lib.hid hbl
  have HBB := Lib.hid hbb
  have hbm2 : bl.length ≤ 9223372036854775807 := by simp only [maxLen] at hbm; omega
  have HUU := Lib.hid (And.intro hu0 hu1)
  clear hp1 hbel h hU hE hbl hbb hu0 hu1
  go_enter Tryd.func5, Tryd.ntmps5
  go_wp2_with (first
    | (go_at_call 9
       go_must (
         (refine (zzFits1_calls _ T fo cut A c Ab cb bl).mono ?_)
         rintro e w2 ⟨rfl, hb2⟩
         have hp2 := HP1.out.below hb2 HP1.out.lt
         have m0 := hp2.cell 0
         have m1 := hp2.cell 1
         have m2 := hp2.cell 2
         have m3 := hp2.cell 3
         have m4 := hp2.cell 4
         have m5 := hp2.cell 5
         have m6 := hp2.cell 6
         have m7 := hp2.cell 7
         have m8 := hp2.cell 8
         simp only [List.getElem?_cons_zero, List.getElem?_cons_succ] at m0 m1 m2 m3 m4 m5 m6 m7 m8
         have HP2 := Lib.hid hp2
         have HB2 : Hid (Below W.heap.size W w2) := HBEL.out.trans (hb2.mono HBEL.out.size)
         clear hp2 hb2))
    | (go_at_call 16
       go_must (
         (refine (implWriteString_sample w2 ((HU.out.below HB2.out).more HB2.out.size)).mono ?_)
         rintro e w2' ⟨g0, c0, rfl, hr0, hb0⟩
         have HB0 : Hid (Below W.heap.size W w2') := HB2.out.trans (hb0.mono HB2.out.size)
         have hp0 := HP2.out.below hb0 HP2.out.lt
         have n0 := hp0.cell 0
         have n1 := hp0.cell 1
         have n2 := hp0.cell 2
         have n3 := hp0.cell 3
         have n4 := hp0.cell 4
         have n5 := hp0.cell 5
         have n6 := hp0.cell 6
         have n7 := hp0.cell 7
         have n8 := hp0.cell 8
         simp only [List.getElem?_cons_zero, List.getElem?_cons_succ] at n0 n1 n2 n3 n4 n5 n6 n7 n8
         have HP0 := Lib.hid hp0
         have HR0 := Lib.hid hr0
         clear hp0 hb0 hr0 m0 m1 m2 m3 m4 m5 m6 m7 m8))
    | (go_at_call 17
       first
       | (have HDD := HD.out
          clear HDD
          go_must (
         (have hbt : b = true := by first | assumption | (have hx : (!b) = false := (by assumption); simpa using hx))
         obtain ⟨hfx, h100, hA2, hm2, enc, hfp, hm, hmc, hcm, hr⟩ := HD.out hbt
         obtain ⟨hF, hcnt, hds, het⟩ := hfx
         skip
         skip
         have hen := fpv_len hfp hcnt
         obtain ⟨d, hdd⟩ : ∃ d, d = enc ++ bl := ⟨_, rfl⟩
         have hdl : d.length = m1 := by rw [hdd, hm]
         have hdB : IsByt d := fun x hx => by
           rw [hdd] at hx
           exact (List.mem_append.1 hx).elim (hfp.1 x) (HBB.out x)
         have hdn : d.length ≤ 100000000 := by rw [hdd, List.length_append]; omega
         rw [← hdd, ← hdl] at hr
         have hcl := implReadString_calls w4 A1 c1 d hr hdn hdB (HEO.out.more HB4.out HB4.out.size) (none) (by rw [hdd]; exact pS_other bl hF hds hfp HK.out)
         rw [hdl] at hcl
         refine hcl.mono ?_
         rintro e w5 ⟨hb5, rfl⟩
         have HB5 : Hid (Below W.heap.size W w5) := HB4.out.trans (hb5.mono HB4.out.size)
         have hp5 := HP4.out.below hb5 HP4.out.lt
         have l0 := hp5.cell 0
         have l1 := hp5.cell 1
         have l2 := hp5.cell 2
         have l3 := hp5.cell 3
         have l4 := hp5.cell 4
         have l5 := hp5.cell 5
         have l6 := hp5.cell 6
         have l7 := hp5.cell 7
         have l8 := hp5.cell 8
         simp only [List.getElem?_cons_zero, List.getElem?_cons_succ] at l0 l1 l2 l3 l4 l5 l6 l7 l8
         skip
         clear hb5 hp5 hcl hr hF hcnt hds het k0 k1 k2 k3 k4 k5 k6 k7 k8))
       | go_must (
         (refine (implReadString_calls w2' (some ⟨g0, 0, none⟩) c0 [161, 1, 97] HR0.out (by decide) (by unfold IsByt; decide) (HEO.out.more HB0.out HB0.out.size) _ pS_a).mono ?_)
         rintro e w3 ⟨hb3, A0, c0', rfl, hr3⟩
         have HB3 : Hid (Below W.heap.size W w3) := HB0.out.trans (hb3.mono HB0.out.size)
         have hp3 := HP0.out.below hb3 HP0.out.lt
         have j0 := hp3.cell 0
         have j1 := hp3.cell 1
         have j2 := hp3.cell 2
         have j3 := hp3.cell 3
         have j4 := hp3.cell 4
         have j5 := hp3.cell 5
         have j6 := hp3.cell 6
         have j7 := hp3.cell 7
         have j8 := hp3.cell 8
         simp only [List.getElem?_cons_zero, List.getElem?_cons_succ] at j0 j1 j2 j3 j4 j5 j6 j7 j8
         have HP3 := Lib.hid hp3
         clear hp3 hb3 hr3 n0 n1 n2 n3 n4 n5 n6 n7 n8))
    | (go_at_call 11
       go_must (
         (refine (data_calls W.heap.size T _ fo cut A Ab c cb bl (TV.below HB3.out _ _ _ HT.out) HB3.out.size (HU.out.below HB3.out) ((HBL.out.below HB3.out).more HB3.out.size) hbc hbm).mono ?_)
         rintro e w4 hdat
         obtain ⟨A1, m1, c1, A2, m2, c2, b, rfl, hb4, hd⟩ := hdat.whole (by omega)
         have HB4 : Hid (Below W.heap.size W w4) := HB3.out.trans (hb4.mono HB3.out.size)
         have hp4 := HP3.out.below hb4 HP3.out.lt
         have k0 := hp4.cell 0
         have k1 := hp4.cell 1
         have k2 := hp4.cell 2
         have k3 := hp4.cell 3
         have k4 := hp4.cell 4
         have k5 := hp4.cell 5
         have k6 := hp4.cell 6
         have k7 := hp4.cell 7
         have k8 := hp4.cell 8
         simp only [List.getElem?_cons_zero, List.getElem?_cons_succ] at k0 k1 k2 k3 k4 k5 k6 k7 k8
         have HD := Lib.hid hd
         have HP4 := Lib.hid hp4
         clear hdat hd hb4 hp4 j0 j1 j2 j3 j4 j5 j6 j7 j8)))
  all_goals (
    (try simp only [Exit.inBlock, Exit.then])
    go_ret
    first
      | exact ⟨rfl, HB9.out⟩
      | exact ⟨rfl, HB6.out⟩
      | exact ⟨rfl, HB5.out⟩
      | exact ⟨rfl, HB4.out⟩
      | exact ⟨rfl, HB2.out⟩)
theorem lawS_calls (T : VT) (W : World) (fo cut : Int) (A : Bool → Option Addr) (Ab : Option Addr) (c : Bool → Nat) (cb : Nat) (bl : List Int) (h : TV W W.heap.size T A c) (hU : UT W.heap.size W) (hE : EofS W W.heap.size) (hbl : Reads W W.heap.size 1 Ab bl.length (bs bl)) (hbc : bl.length ≤ cb) (hbm : cb ≤ maxLen) (hbb : ∀ x ∈ bl, 0 ≤ x ∧ x ≤ 255) : Calls Tryd.prog 5 #[.agg #[.int .i64 T.k, .int .u64 T.u, .string T.s, .slice (A false) (T.n false) (c false), .int .i64 T.o, .slice (A true) (T.n true) (c true), .int .u64 fo, .slice Ab bl.length cb, .int .i64 cut]] W fun e w' => e = .returned (.bool true) ∧ Below W.heap.size W w' := by
  by_cases hc : 0 < cut
  · exact lawS_cut T W fo cut A Ab c cb bl h hU hE hbl hbc hbm hbb hc
  · by_cases h1 : T.k = 19
    · exact lawS_19 T W fo cut A Ab c cb bl h hU hE hbl hbc hbm hbb h1 hc
    · by_cases h2 : T.k = 20
      · exact lawS_20 T W fo cut A Ab c cb bl h hU hE hbl hbc hbm hbb h2 hc
      · exact lawS_no T W fo cut A Ab c cb bl h hU hE hbl hbc hbm hbb ⟨h1, h2⟩ hc
end Go.Proofs.YtjjhckbidcdkcaaDoor
