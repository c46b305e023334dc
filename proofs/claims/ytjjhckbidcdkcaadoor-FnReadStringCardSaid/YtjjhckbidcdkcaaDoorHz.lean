/- spec.PutValue, given pieces. PRINTED by wip/genhz.py. -/
import Derived.Deep.RegionLawGrows
import Derived.Maps.RangeWalk
import Derived.Test.YtjjhckbidcdkcaaDoorHw
namespace Go.Proofs.YtjjhckbidcdkcaaDoor
open Go.RowKit
set_option linter.unusedVariables false

theorem codes_in {k c : Int} (h : c ∈ codesK k) : 0 < c ∧ c ≤ 255 := by
  have hall : ∀ l ∈ codesL, ∀ c ∈ l, 0 < c ∧ c ≤ 255 := by decide
  unfold codesK at h
  rw [List.getD_eq_getElem?_getD] at h
  rcases h2 : codesL[k.toNat]? with _ | l
  · rw [h2] at h; cases h
  · rw [h2] at h
    exact hall l (List.mem_of_getElem? h2) c h
theorem own_apart {w : World} {B n : Nat} {e : TypeId} {size : Nat} {v v2 : Value} {xs : List Value} (h : w.ownsRow B e size v n xs) (hlt : ∀ j, v2.ownBlock = some j → j < B) : v.ownBlock = none ∨ v.ownBlock ≠ v2.ownBlock := by
  rcases hv : v.ownBlock with _ | j
  · exact .inl rfl
  · right
    intro e
    have h1 := (h.lt j hv).1
    have h2 := hlt j e.symm
    omega
theorem grownV_fresh {W w3 w4 : World} {gf : Nat} {row : Option Nat} (h : W.grownBy w3 (some gf)) (hg : w3.grownBy w4 row) (hr : ∀ j, row = some j → W.heap.size ≤ j) : W.grownBy w4 (some gf) :=
  ⟨hg.os.trans h.os, hg.tape.trans h.tape, hg.output.trans h.output, Nat.le_trans h.size hg.size, fun k hk hn => (hg.block k (Nat.lt_of_lt_of_le hk h.size) (fun e => by have := hr k e.symm; omega)).trans (h.block k hk hn)⟩
theorem grownV_drew {W w : World} {row : Option Nat} (h : W.grownBy w row) : W.grownBy w.drew row := ⟨h.os, h.tape, h.output, h.size, h.block⟩
set_option maxHeartbeats 4000000 in
set_option maxRecDepth 100000 in
theorem putValue_of (B gf : Nat) (sh : Bool) (T : VT) (hgf : B ≤ gf) (hPC : PC B gf sh T) (hD : 0 < T.n true → PV B gf sh (T.kid true 0)) (hct : T.cnt ≤ 500) (hn1 : T.n true ≤ 1) : PV B gf sh T := by
  intro W st A c h hB hb
  obtain ⟨hwf, hk⟩ := h.open_
  obtain ⟨hnc1, hcm1, hk1⟩ := hk true
  have HT := Lib.hid h
  clear h hk
  unfold vV
  obtain ⟨A0, hA0⟩ : ∃ x, A false = x := ⟨_, rfl⟩
  obtain ⟨A1, hA1⟩ : ∃ x, A true = x := ⟨_, rfl⟩
  obtain ⟨c0, hc0⟩ : ∃ x, c false = x := ⟨_, rfl⟩
  obtain ⟨c1, hc1⟩ : ∃ x, c true = x := ⟨_, rfl⟩
  rw [hA1] at hk1
  rw [hc1] at hnc1 hcm1
  rw [hA0, hA1, hc0, hc1]
  obtain ⟨w1, hw1⟩ : ∃ w1, w1 = W.alloc (.cells #[.int .i64 T.k, .int .u64 T.u, .string T.s, .slice A0 (T.n false) c0, .int .i64 T.o, .slice A1 (T.n true) c1] 25) := ⟨_, rfl⟩
  have hp1 : Blk w1 W.heap.size 25 [.int .i64 T.k, .int .u64 T.u, .string T.s, .slice A0 (T.n false) c0, .int .i64 T.o, .slice A1 (T.n true) c1] := by rw [hw1]; exact Blk.new W 25 [.int .i64 T.k, .int .u64 T.u, .string T.s, .slice A0 (T.n false) c0, .int .i64 T.o, .slice A1 (T.n true) c1]
  have hg1 : W.grownBy w1 (some gf) := by rw [hw1]; exact World.grownBy_alloc _ _ _
  have hb1 : Blk w1 gf 77 [.int .u64 st, .bool sh] := by rw [hw1]; exact hb.alloc _
  have v5 := hp1.cell 5
  simp only [List.getElem?_cons_zero, List.getElem?_cons_succ] at v5
  have hnil : w1.ownsRow W.heap.size 5 1 (.slice none 0 0) 0 (bs []) := ⟨by simp [bs], .inl ⟨rfl, rfl⟩⟩
  have HX := Lib.hid (And.intro hb1 (And.intro hp1 (And.intro hnil hg1)))
  have HPC := Lib.hid hPC
  have HD := Lib.hid hD
  have HW1 := Lib.hid hw1
  have HA0 := Lib.hid hA0
  have HA1 := Lib.hid hA1
  have HC0 := Lib.hid hc0
  have HC1 := Lib.hid hc1
  have HK1 := Lib.hid hk1
  clear hPC hD hw1 hp1 hg1 hb1 hA0 hA1 hc0 hc1 hb hnil hk1 hwf
  by_cases hn : T.n true = 0
  · have hnd : decide ((0 : Int) < (T.n true : Int)) = false := decide_eq_false (by omega)
    have hnd2 : decide (0 < T.n true) = false := decide_eq_false (by omega)
    have HN0 := Lib.hid hn
    clear v5 hn
    obtain ⟨hbX, hpX, hoX, hgX⟩ := HX.out
    have hbelX : Below B W w1 := belowV hgX (fun j hj => by injection hj with hj; omega) hB
    have hcall := HPC.out w1 st A c (TV.below hbelX _ _ _ HT.out) (Nat.le_trans hB hbelX.size) hbX
    have hzX : W.heap.size < w1.heap.size := hpX.lt
    have x0 := hpX.cell 0
    have x1 := hpX.cell 1
    have x2 := hpX.cell 2
    have x3 := hpX.cell 3
    have x4 := hpX.cell 4
    have x5 := hpX.cell 5
    simp only [List.getElem?_cons_zero, List.getElem?_cons_succ] at x0 x1 x2 x3 x4 x5
    unfold vV at hcall
    rw [HA0.out, HA1.out, HC0.out, HC1.out] at hcall
    have HC := Lib.hid hcall
    have HBX := Lib.hid hbX
    have HOX := Lib.hid hoX
    have HGX := Lib.hid hgX
    clear hbX hpX hoX hgX hbelX hcall
    go_enter Tryd.func36, Tryd.ntmps36
    go_upto_region 1 with (fail)
    rw [← HW1.out]
    go_wp2_with (first
      | ((have HZ9 := HN3)
         go_at_call 65
         go_must (
           (refine (pick_calls w3 gf N st3 sh HB3.out hN0 (by omega)).mono ?_)
           rintro e w4 ⟨q, st4, rfl, hq, hb4, hg4⟩
           have hqi : q < L.length := by rw [← HN3.out]; exact hq
           have hpq : L[q]? = some L[q] := List.getElem?_eq_getElem hqi
           obtain ⟨u, hu⟩ : ∃ u, S[q]? = some u := ⟨S[q]'(by rw [HS3.out]; exact hqi), List.getElem?_eq_getElem _⟩
           obtain ⟨Ad, cd, hue, hod⟩ := HD3.out q _ u hpq hu
           obtain ⟨r1, r2⟩ := rowP_get L S q _ u hpq hu
           subst hue
           have hmem : L[q] ∈ L := List.getElem_mem hqi
           obtain ⟨code, hcode⟩ : ∃ code, L[q].1 = code := ⟨_, rfl⟩
           obtain ⟨d, hd⟩ : ∃ d, L[q].2 = d := ⟨_, rfl⟩
           have hmem2 : (code, d) ∈ L := by rw [← hcode, ← hd]; exact hmem
           rw [hcode] at r1
           rw [hd] at r2 hod
           obtain ⟨D, hD⟩ : ∃ D, d.length = D := ⟨_, rfl⟩
           rw [hD] at r2
           have hrow4 := HROW.out.kept hg4 (.inr (own_neH HROW.out HB3.out (by decide)))
           have hrd := Reads.of_own hrow4
           obtain ⟨ad, had, hlt4, hcell⟩ := hrd.2 hN0
           cases had
           have y0 := hcell _ _ r1
           have y1 := hcell _ _ r2
           rw [add_lit, Nat.zero_add] at y0 y1
           have hod4 := hod.keptg HB3.out (by decide) hg4
           have hox4 := HO3.out.kept hg4 (.inr (own_neH HO3.out HB3.out (by decide)))
           have hz4 := hg4.size
           have HM := Lib.hid hmem2
           have HDL := Lib.hid hD
           have HOD := Lib.hid hod4
           have HOX4 := Lib.hid hox4
           have HB4 := Lib.hid hb4
           have HG4 := Lib.hid (grownV_trans HG3.out hg4)
           have hqc : (q : Int) < (N : Int) := by omega
           have hqc0 : (0 : Int) ≤ (q : Int) := by omega
           have hu8 : IntKind.u8.wrap code = code := by
             have := codes_in ((HPG.out.2.2.1 _ hmem2).1)
             rw [IntKind.wrap_u8]; omega
           clear hqi hpq hu hod r1 r2 hmem hcode hd hmem2 hD hrow4 hrd hcell hod4 hox4 hb4 hg4))
      | ((have HZ8 := HC)
         go_at_call 64
         go_must (
           (refine HC.out.mono ?_)
           rintro e w3 ⟨v3, L, st3, rfl, hpg, hpw, hb3, hg3⟩
           obtain ⟨A3, c3, S, rfl, hS, hrow, hdat⟩ := hpw
           obtain ⟨N, hN⟩ : ∃ N, N = L.length := ⟨_, rfl⟩
           rw [← hN] at hrow ⊢
           have hN0 : 0 < N := by
             obtain ⟨p, hp, _⟩ := hpg.1
             rw [hN]
             exact List.length_pos_of_mem hp
           have hN3 : N ≤ 3 := by rw [hN]; exact hpg.2.1
           obtain ⟨g3, hA3⟩ : ∃ g3, A3 = some ⟨g3, 0, none⟩ := by
             rcases hrow.2 with ⟨hv, h0⟩ | ⟨g, cap, cur, hv, _⟩
             · omega
             · injection hv with hv
               exact ⟨g, hv⟩
           subst hA3
           have hz3 := hg3.size
           have HO3 := Lib.hid (HOX.out.kept hg3 (.inr (own_neH HOX.out HBX.out (by decide))))
           have HPG := Lib.hid hpg
           have HROW := Lib.hid hrow
           have HD3 := Lib.hid hdat
           have HS3 := Lib.hid hS
           have HN3 := Lib.hid hN
           have HB3 := Lib.hid hb3
           have HG3 := Lib.hid (grownV_trans HGX.out hg3)
           clear hpg hrow hdat hS hN hb3 hg3)))
    all_goals
      obtain ⟨w5, hw5⟩ : ∃ w5, w5 = w4.alloc (.cells #[.int .i64 code, .slice Ad D cd] 118) := ⟨_, rfl⟩
      rw [← hw5]
      have hb5 : Below w4.heap.size w4 w5 := by rw [hw5]; exact (Below.refl _ _).alloc (Nat.le_refl _) _
      have hp5 : Blk w5 w4.heap.size 118 [.int .i64 code, .slice Ad D cd] := by rw [hw5]; exact Blk.new w4 _ [_, _]
      have hox5 := own_belowH HOX4.out hb5
      have hod5 := HOD.out.below hb5
      have hb5g := HB4.out.below hb5 HB4.out.lt
      have hg5 : W.grownBy w5 (some gf) := by rw [hw5]; exact grownV_trans HG4.out (World.grownBy_alloc _ _ _)
      have hz5 : w5.heap.size = w4.heap.size + 1 := by rw [hw5]; simp
      have p0 := hp5.cell 0
      have p1 := hp5.cell 1
      simp only [List.getElem?_cons_zero, List.getElem?_cons_succ] at p0 p1
      have hDb := HPG.out.2.2.1 _ HM.out
      have hct2 := VT.cnt_eq T
      have hDm : D + 10 ≤ 140000 * cntK T := by have := hDb.2.2; rw [HDL.out] at this; exact this
      have hcK : cntK T ≤ 500 := by unfold cntK; omega
      have HDB := Lib.hid hDb
      have HP5 := Lib.hid hp5
      have HOX5 := Lib.hid hox5
      have HOD5 := Lib.hid hod5
      have HB5 := Lib.hid hb5g
      have HG5 := Lib.hid hg5
      have hrw : W.heap.size ≤ w5.heap.size := by omega
      have hlt45 : w4.heap.size < w5.heap.size := by omega
      have HZ5 := Lib.hid hz5
      clear hw5 hb5 hp5 hox5 hod5 hb5g hg5 hDb hct2 y0 y1 hz5
      go_region_law (first
        | (refine step_append_B (B := W.heap.size) (n := 0 + 1) (m := D) (N := 0 + 1 + D) (l := [] ++ [code]) (l2 := d) rfl (.tmp 35) (.tmp 37) rfl rfl rfl rfl HO6.out (by have := HOD6.out.reads; rw [HDL.out] at this; exact this) hz6 (by omega) ?_
           intro A7 c7 w7 HO7 HG7)
        | (refine step_append_B (B := W.heap.size) (n := 0) (m := 1) (N := 0 + 1) (l := []) (l2 := [code]) rfl (.tmp 30) (.tmp 34) rfl rfl rfl rfl ((own_belowH HOX5.out ((Below.refl _ w5).alloc (Nat.le_refl _) _)).drew) ((reads_oneP w5 (.int .u8 code) 5).more (by simp)) (by simp; omega) (by omega) ?_
           intro A6 c6 w6 HO6 HG6
           have hb6 : Blk w6 w4.heap.size 118 [.int .i64 code, .slice Ad D cd] := ((HP5.out.alloc _).drewN 1).grown HG6.out (fun e => own_neH (w := w5) HOX5.out HP5.out (by decide) e.symm)
           have y1 := hb6.cell 1
           simp only [List.getElem?_cons_zero, List.getElem?_cons_succ] at y1
           have hz6 : W.heap.size ≤ w6.heap.size := by have := HG6.out.size; simp at this; omega
           have HOD6 : Hid (RdB w6 w1.heap.size d Ad) := (HOD5.out.below ((Below.refl _ w5).alloc (Nat.le_refl _) (.cells #[.int .u8 code] 5)).drew).far HG6.out (fun j hj => (HOX.out.lt j hj).2)
           have HB6 : Hid (Blk w6 gf 77 [.int .u64 st4, .bool sh]) := ((HB5.out.alloc _).drewN 1).grown HG6.out (fun e => own_neH (w := w5) HOX5.out HB5.out (by decide) e.symm)
           have HG6' : Hid (W.grownBy w6 (some gf)) := grownV_fresh (grownV_drew (grownV_trans HG5.out (World.grownBy_alloc _ _ _))) HG6.out (fun j hj => (HOX5.out.lt j hj).1)
           clear hb6 HG6))
      all_goals
        dsimp only [Act.put, List.getElem_toArray, List.getElem_cons_succ, List.getElem_cons_zero, List.getElem_cons]
        go_frame
        go_wp2
        go_ret
        have hb7 : Blk w7 gf 77 [.int .u64 st4, .bool sh] := HB6.out.grown HG7.out (fun e => own_neH HO6.out HB6.out (by decide) e.symm)
        have hg7 : W.grownBy w7 (some gf) := grownV_fresh HG6'.out HG7.out (fun j hj => (HO6.out.lt j hj).1)
        have hle : (([] ++ [code]) ++ d).length = 0 + 1 + D := by rw [List.length_append, List.length_append, HDL.out, List.length_nil]; rfl
        refine ⟨([] ++ [code]) ++ d, A7, c7, st4, by rw [hle]; rfl, ?_, by rw [hle]; exact HO7.out, hb7, hg7⟩
        have hcr := codes_in HDB.out.1
        have hcc := VT.cnt_eq T
        refine ⟨?_, by simp, ?_, fun _ => ⟨L, code, d, HPG.out, HM.out, rfl⟩⟩
        · intro x hx
          rcases List.mem_cons.1 hx with rfl | hx
          · exact ⟨by omega, hcr.2⟩
          · exact HDB.out.2.1 x hx
        · rw [hle]
          have : cntK T ≤ T.cnt := by unfold cntK; omega
          omega

  · have hn1' : T.n true = 1 := by omega
    clear hn
    obtain ⟨gd, pd, hAd, hgd, hkd⟩ := HK1.out (by omega)
    obtain ⟨Ai, ci, hva, htd⟩ := hkd 0 (by omega)
    rw [Nat.zero_mul, Nat.add_zero] at hva
    have hbw1 : Below B W w1 := by have h := HX.out.2.2.2; exact belowV h (fun j hj => by injection hj with hj; omega) hB
    obtain ⟨wd2, hwd2⟩ : ∃ wd2, wd2 = w1.alloc (.cells #[.int .u8 0] 5) := ⟨_, rfl⟩
    have hz1 : W.heap.size < w1.heap.size := HX.out.2.1.lt
    have hgdw : gd < w1.heap.size := by omega
    have hbw2 : Below B W wd2 := by rw [hwd2]; exact hbw1.alloc (by omega) _
    obtain ⟨d0, d1, d2, d3, d4, d5⟩ := hva.keep (W' := w1) (fun q => hbw1.cell (p := ⟨gd, q, none⟩) hgd)
    have hbl2 : Blk wd2 w1.heap.size 5 [.int .u8 0] := by rw [hwd2]; exact Blk.new w1 _ [_]
    have hbg2 : Blk wd2 gf 77 [.int .u64 st, .bool sh] := by rw [hwd2]; exact HX.out.1.alloc _
    have hpp2 : Blk wd2 W.heap.size 25 [.int .i64 T.k, .int .u64 T.u, .string T.s, .slice A0 (T.n false) c0, .int .i64 T.o, .slice A1 (T.n true) c1] := by rw [hwd2]; exact HX.out.2.1.alloc _
    have hgg2 : W.grownBy wd2 (some gf) := by rw [hwd2]; exact grownV_trans HX.out.2.2.2 (World.grownBy_alloc _ _ _)
    have hzd2 : wd2.heap.size = w1.heap.size + 1 := by rw [hwd2]; simp
    have hcall1 := HD.out (by omega) wd2 st Ai ci (TV.below hbw2 _ _ _ htd) (by omega) hbg2
    have hdn : (T.kid true 0).cnt + cntK T = T.cnt := by
      have := VT.cnt_eq T
      rw [hn1'] at this
      simp only [sumV] at this
      unfold cntK
      omega
    unfold vV at hcall1
    subst hAd
    have HC1d := Lib.hid hcall1
    have HDN := Lib.hid hdn
    have HWD2 := Lib.hid hwd2
    have HBL2 := Lib.hid hbl2
    have HBG2 := Lib.hid hbg2
    have HPP2 := Lib.hid hpp2
    have HGG2 := Lib.hid hgg2
    have HZD2 := Lib.hid hzd2
    have HN1 := Lib.hid hn1'
    have hnd : decide ((0 : Int) < (T.n true : Int)) = true := decide_eq_true (by omega)
    have hnd2 : decide (0 < T.n true) = true := decide_eq_true (by omega)
    have hnp : (0 : Int) < (T.n true : Int) := by omega
    have hnp2 : 0 < T.n true := by omega
    obtain ⟨i0, hi0, hiz0, hiz1, hiz2⟩ := info_parts infoU8
    clear hkd hva htd hbw1 hwd2 hbw2 hbl2 hbg2 hpp2 hgg2 hzd2 hcall1 hdn hn1'
    generalize T.kid true 0 = X at *
    go_enter Tryd.func36, Tryd.ntmps36
    go_upto_region 1 with (fail)
    rw [← HW1.out]
    go_upto_region 4 with (first
      | ((have HZ7 := HC1d)
         go_at_call 36
         go_must (
           (rw [← HWD2.out])
           refine HC1d.out.mono ?_
           rintro e w3d ⟨enc1, A3d, c3d, st3d, rfl, hf3d, ho3d, hb3d, hg3d⟩
           obtain ⟨M, hM⟩ : ∃ M, enc1.length = M := ⟨_, rfl⟩
           rw [hM] at ho3d ⊢
           have hMb : M ≤ 140000 * 500 := by have h1 := hf3d.2.2.1; rw [hM] at h1; have := HDN.out; omega
           have hbl3 : Blk w3d w1.heap.size 5 [.int .u8 0] := HBL2.out.grown hg3d (fun e => HBL2.out.ne_ HBG2.out (by decide) (by injection e))
           have hpp3 := HPP2.out.grown hg3d (fun e => HPP2.out.ne_ HBG2.out (by decide) (by injection e))
           have hz3d := hg3d.size
           have HO1D := Lib.hid (blk_own (base := W.heap.size) (n := 1) hbl3 (by omega) (by simp) (by simp [maxLen]))
           have HRD := Lib.hid (Reads.of_own ho3d)
           have HFD := Lib.hid hf3d
           have HML := Lib.hid hM
           have HB3D := Lib.hid hb3d
           have HPP3 := Lib.hid hpp3
           have HBL3 := Lib.hid hbl3
           have HG3D := Lib.hid (grownV_trans HGG2.out hg3d)
           have hzw : W.heap.size ≤ w3d.heap.size := by have := HZD2.out; omega
           clear hf3d ho3d hb3d hg3d hM hbl3 hpp3 hz3d))
      | ((have HZ6 := HB3D)
         at_builtin
         go_must (
           (refine wpList_append_any _ rfl (.tmp 12) (.tmp 18) 26 rfl W.heap.size 5 i0 _ 1 1 Tryd.underlying26 hi0 hiz0 hiz1 hiz2 rfl (by omega) _ 1 [.int .u8 0] rfl HO1D.out w3d.heap.size A3d M c3d (bs enc1) rfl HRD.out (bs_one _) (by simp only [maxLen]; omega) (by omega) hzw ?_)
           intro v1 wd4 hown4 hgr4 hat4
           obtain ⟨Aod, cod, rfl⟩ := own_formP hown4
           obtain ⟨pr, hpr⟩ : ∃ pr, pr = 0 :: enc1 := ⟨_, rfl⟩
           obtain ⟨no, hno⟩ : ∃ no, 1 + M = no := ⟨_, rfl⟩
           have hpl : pr.length = no := by rw [hpr, List.length_cons, HML.out]; omega
           have hown5 : wd4.ownsRow W.heap.size 5 1 (.slice Aod no cod) no (bs pr) := by rw [hpr, ← hno]; exact hown4
           have hbX4 : Blk wd4 gf 77 [.int .u64 st3d, .bool sh] := HB3D.out.grown hgr4 (fun e => HBL3.out.ne_ HB3D.out (by decide) (Option.some.inj (show some gf = some w1.heap.size from e)).symm)
           have hpX4 := HPP3.out.grown hgr4 (fun e => by have := Option.some.inj (show some W.heap.size = some w1.heap.size from e); omega)
           have hgX4 : W.grownBy wd4 (some gf) := grownV_fresh HG3D.out hgr4 (fun j hj => by have := Option.some.inj (show some w1.heap.size = some j from hj); omega)
           have hnob : no ≤ 140000 * 500 + 1 := by omega
           rw [hno]
           clear HX
           have HX := Lib.hid (And.intro hbX4 (And.intro hpX4 (And.intro hown5 hgX4)))
           have HPR := Lib.hid hpr
           have HPL := Lib.hid hpl
           clear hown4 hgr4 hat4 hpr hno hpl hown5 hbX4 hpX4 hgX4)))
    obtain ⟨hbX, hpX, hoX, hgX⟩ := HX.out
    have hbelX : Below B W wd4 := belowV hgX (fun j hj => by injection hj with hj; omega) hB
    have hcall := HPC.out wd4 st3d A c (TV.below hbelX _ _ _ HT.out) (Nat.le_trans hB hbelX.size) hbX
    have hzX : W.heap.size < wd4.heap.size := hpX.lt
    have x0 := hpX.cell 0
    have x1 := hpX.cell 1
    have x2 := hpX.cell 2
    have x3 := hpX.cell 3
    have x4 := hpX.cell 4
    have x5 := hpX.cell 5
    simp only [List.getElem?_cons_zero, List.getElem?_cons_succ] at x0 x1 x2 x3 x4 x5
    unfold vV at hcall
    rw [HA0.out, HA1.out, HC0.out, HC1.out] at hcall
    have HC := Lib.hid hcall
    have HBX := Lib.hid hbX
    have HOX := Lib.hid hoX
    have HGX := Lib.hid hgX
    clear hbX hpX hoX hgX hbelX hcall
    go_wp2_with (first
      | ((have HZ9 := HN3)
         go_at_call 65
         go_must (
           (refine (pick_calls w3 gf N st3 sh HB3.out hN0 (by omega)).mono ?_)
           rintro e w4 ⟨q, st4, rfl, hq, hb4, hg4⟩
           have hqi : q < L.length := by rw [← HN3.out]; exact hq
           have hpq : L[q]? = some L[q] := List.getElem?_eq_getElem hqi
           obtain ⟨u, hu⟩ : ∃ u, S[q]? = some u := ⟨S[q]'(by rw [HS3.out]; exact hqi), List.getElem?_eq_getElem _⟩
           obtain ⟨Ad, cd, hue, hod⟩ := HD3.out q _ u hpq hu
           obtain ⟨r1, r2⟩ := rowP_get L S q _ u hpq hu
           subst hue
           have hmem : L[q] ∈ L := List.getElem_mem hqi
           obtain ⟨code, hcode⟩ : ∃ code, L[q].1 = code := ⟨_, rfl⟩
           obtain ⟨d, hd⟩ : ∃ d, L[q].2 = d := ⟨_, rfl⟩
           have hmem2 : (code, d) ∈ L := by rw [← hcode, ← hd]; exact hmem
           rw [hcode] at r1
           rw [hd] at r2 hod
           obtain ⟨D, hD⟩ : ∃ D, d.length = D := ⟨_, rfl⟩
           rw [hD] at r2
           have hrow4 := HROW.out.kept hg4 (.inr (own_neH HROW.out HB3.out (by decide)))
           have hrd := Reads.of_own hrow4
           obtain ⟨ad, had, hlt4, hcell⟩ := hrd.2 hN0
           cases had
           have y0 := hcell _ _ r1
           have y1 := hcell _ _ r2
           rw [add_lit, Nat.zero_add] at y0 y1
           have hod4 := hod.keptg HB3.out (by decide) hg4
           have hox4 := HO3.out.kept hg4 (.inr (own_neH HO3.out HB3.out (by decide)))
           have hz4 := hg4.size
           have HM := Lib.hid hmem2
           have HDL := Lib.hid hD
           have HOD := Lib.hid hod4
           have HOX4 := Lib.hid hox4
           have HB4 := Lib.hid hb4
           have HG4 := Lib.hid (grownV_trans HG3.out hg4)
           have hqc : (q : Int) < (N : Int) := by omega
           have hqc0 : (0 : Int) ≤ (q : Int) := by omega
           have hu8 : IntKind.u8.wrap code = code := by
             have := codes_in ((HPG.out.2.2.1 _ hmem2).1)
             rw [IntKind.wrap_u8]; omega
           clear hqi hpq hu hod r1 r2 hmem hcode hd hmem2 hD hrow4 hrd hcell hod4 hox4 hb4 hg4))
      | ((have HZ8 := HC)
         go_at_call 64
         go_must (
           (refine HC.out.mono ?_)
           rintro e w3 ⟨v3, L, st3, rfl, hpg, hpw, hb3, hg3⟩
           obtain ⟨A3, c3, S, rfl, hS, hrow, hdat⟩ := hpw
           obtain ⟨N, hN⟩ : ∃ N, N = L.length := ⟨_, rfl⟩
           rw [← hN] at hrow ⊢
           have hN0 : 0 < N := by
             obtain ⟨p, hp, _⟩ := hpg.1
             rw [hN]
             exact List.length_pos_of_mem hp
           have hN3 : N ≤ 3 := by rw [hN]; exact hpg.2.1
           obtain ⟨g3, hA3⟩ : ∃ g3, A3 = some ⟨g3, 0, none⟩ := by
             rcases hrow.2 with ⟨hv, h0⟩ | ⟨g, cap, cur, hv, _⟩
             · omega
             · injection hv with hv
               exact ⟨g, hv⟩
           subst hA3
           have hz3 := hg3.size
           have HO3 := Lib.hid (HOX.out.kept hg3 (.inr (own_neH HOX.out HBX.out (by decide))))
           have HPG := Lib.hid hpg
           have HROW := Lib.hid hrow
           have HD3 := Lib.hid hdat
           have HS3 := Lib.hid hS
           have HN3 := Lib.hid hN
           have HB3 := Lib.hid hb3
           have HG3 := Lib.hid (grownV_trans HGX.out hg3)
           clear hpg hrow hdat hS hN hb3 hg3)))
    all_goals
      obtain ⟨w5, hw5⟩ : ∃ w5, w5 = w4.alloc (.cells #[.int .i64 code, .slice Ad D cd] 118) := ⟨_, rfl⟩
      rw [← hw5]
      have hb5 : Below w4.heap.size w4 w5 := by rw [hw5]; exact (Below.refl _ _).alloc (Nat.le_refl _) _
      have hp5 : Blk w5 w4.heap.size 118 [.int .i64 code, .slice Ad D cd] := by rw [hw5]; exact Blk.new w4 _ [_, _]
      have hox5 := own_belowH HOX4.out hb5
      have hod5 := HOD.out.below hb5
      have hb5g := HB4.out.below hb5 HB4.out.lt
      have hg5 : W.grownBy w5 (some gf) := by rw [hw5]; exact grownV_trans HG4.out (World.grownBy_alloc _ _ _)
      have hz5 : w5.heap.size = w4.heap.size + 1 := by rw [hw5]; simp
      have p0 := hp5.cell 0
      have p1 := hp5.cell 1
      simp only [List.getElem?_cons_zero, List.getElem?_cons_succ] at p0 p1
      have hDb := HPG.out.2.2.1 _ HM.out
      have hct2 := VT.cnt_eq T
      have hDm : D + 10 ≤ 140000 * cntK T := by have := hDb.2.2; rw [HDL.out] at this; exact this
      have hcK : cntK T ≤ 500 := by unfold cntK; omega
      have HDB := Lib.hid hDb
      have HP5 := Lib.hid hp5
      have HOX5 := Lib.hid hox5
      have HOD5 := Lib.hid hod5
      have HB5 := Lib.hid hb5g
      have HG5 := Lib.hid hg5
      have hrw : W.heap.size ≤ w5.heap.size := by omega
      have hlt45 : w4.heap.size < w5.heap.size := by omega
      have HZ5 := Lib.hid hz5
      clear hw5 hb5 hp5 hox5 hod5 hb5g hg5 hDb hct2 y0 y1 hz5
      go_region_law (first
        | (refine step_append_B (B := W.heap.size) (n := no + 1) (m := D) (N := no + 1 + D) (l := pr ++ [code]) (l2 := d) rfl (.tmp 35) (.tmp 37) rfl rfl rfl rfl HO6.out (by have := HOD6.out.reads; rw [HDL.out] at this; exact this) hz6 (by omega) ?_
           intro A7 c7 w7 HO7 HG7)
        | (refine step_append_B (B := W.heap.size) (n := no) (m := 1) (N := no + 1) (l := pr) (l2 := [code]) rfl (.tmp 30) (.tmp 34) rfl rfl rfl rfl ((own_belowH HOX5.out ((Below.refl _ w5).alloc (Nat.le_refl _) _)).drew) ((reads_oneP w5 (.int .u8 code) 5).more (by simp)) (by simp; omega) (by omega) ?_
           intro A6 c6 w6 HO6 HG6
           have hb6 : Blk w6 w4.heap.size 118 [.int .i64 code, .slice Ad D cd] := ((HP5.out.alloc _).drewN 1).grown HG6.out (fun e => own_neH (w := w5) HOX5.out HP5.out (by decide) e.symm)
           have y1 := hb6.cell 1
           simp only [List.getElem?_cons_zero, List.getElem?_cons_succ] at y1
           have hz6 : W.heap.size ≤ w6.heap.size := by have := HG6.out.size; simp at this; omega
           have HOD6 : Hid (RdB w6 wd4.heap.size d Ad) := (HOD5.out.below ((Below.refl _ w5).alloc (Nat.le_refl _) (.cells #[.int .u8 code] 5)).drew).far HG6.out (fun j hj => (HOX.out.lt j hj).2)
           have HB6 : Hid (Blk w6 gf 77 [.int .u64 st4, .bool sh]) := ((HB5.out.alloc _).drewN 1).grown HG6.out (fun e => own_neH (w := w5) HOX5.out HB5.out (by decide) e.symm)
           have HG6' : Hid (W.grownBy w6 (some gf)) := grownV_fresh (grownV_drew (grownV_trans HG5.out (World.grownBy_alloc _ _ _))) HG6.out (fun j hj => (HOX5.out.lt j hj).1)
           clear hb6 HG6))
      all_goals
        dsimp only [Act.put, List.getElem_toArray, List.getElem_cons_succ, List.getElem_cons_zero, List.getElem_cons]
        go_frame
        go_wp2
        go_ret
        have hb7 : Blk w7 gf 77 [.int .u64 st4, .bool sh] := HB6.out.grown HG7.out (fun e => own_neH HO6.out HB6.out (by decide) e.symm)
        have hg7 : W.grownBy w7 (some gf) := grownV_fresh HG6'.out HG7.out (fun j hj => (HO6.out.lt j hj).1)
        have hle : ((pr ++ [code]) ++ d).length = no + 1 + D := by rw [List.length_append, List.length_append, HDL.out, HPL.out]; rfl
        refine ⟨(pr ++ [code]) ++ d, A7, c7, st4, by rw [hle]; rfl, ?_, by rw [hle]; exact HO7.out, hb7, hg7⟩
        have hcr := codes_in HDB.out.1
        have hcc := VT.cnt_eq T
        have hDcn := HDN.out
        refine ⟨?_, by simp, ?_, fun h0 => absurd h0 (by have := HN1.out; omega)⟩
        · intro x hx
          rcases List.mem_append.1 hx with hx | hx
          · rcases List.mem_append.1 hx with hx | hx
            · rw [HPR.out] at hx
              rcases List.mem_cons.1 hx with rfl | hx
              · omega
              · exact HFD.out.1 x hx
            · rw [List.mem_singleton.1 hx]; exact ⟨by omega, hcr.2⟩
          · exact HDB.out.2.1 x hx
        · rw [hle]
          have h1 := HFD.out.2.2.1
          have h2 := HPL.out
          rw [HPR.out, List.length_cons] at h2
          omega

end Go.Proofs.YtjjhckbidcdkcaaDoor
