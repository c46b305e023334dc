/- spec.array, given pieces at the values and PutValue at the first one's descriptor. PRINTED by wip/genid.py. · spec.array at any value that fits: its contract out of XId's and XIg's. By hand. -/
import Derived.Test.YtjjhckbidcdkcaaDoorId
import Derived.Test.YtjjhckbidcdkcaaDoorIe
namespace Go.Proofs.YtjjhckbidcdkcaaDoor
open Go.RowKit
set_option linter.unusedVariables false

set_option maxHeartbeats 4000000 in
set_option maxRecDepth 100000 in
theorem array_c (B gf : Nat) (sh : Bool) (hgf : B ≤ gf) (W : World) (st k u o kind : Int) (s : ByteArray) (n0 n1 c0 c1 : Nat) (A0 A1 : Option Addr) (K : Nat → VT) (hB : B ≤ W.heap.size) (hb : Blk W gf 77 [.int .u64 st, .bool sh])
    (hkr : 0 ≤ kind ∧ kind < 24) (hn : n0 ≤ 1000) (hk0 : 0 < n0 → ∃ g p, A0 = some ⟨g, p, none⟩ ∧ g < B ∧ ∀ i, i < n0 → ∃ Ai ci, VAt W g (p + i * 6) (K i) Ai ci ∧ TV W B (K i) Ai ci) (hkd : ∀ i, i < n0 → (K i).k = kind) (hct : sumV (fun i => cntK (K i)) n0 ≤ 500)
    (ih : ∀ i, i < n0 → PC B gf sh (K i).bare) (hz : 0 < n0) (hnd : (K 0).n true = 1) (hPV : PV B gf sh ((K 0).kid true 0)) (hX : sumV (fun i => cntK (K i)) n0 + ((K 0).kid true 0).cnt ≤ 500) :
    Calls Tryd.prog 89 #[.pointer (some ⟨gf, 0, none⟩), .agg #[.int .i64 k, .int .u64 u, .string s, .slice A0 n0 c0, .int .i64 o, .slice A1 n1 c1]] W (ArPost gf sh kind K n0 (140000 * sumV (fun i => cntK (K i)) n0 + 2 + 140000 * ((K 0).kid true 0).cnt) W) := by
  obtain ⟨w1, hw1⟩ : ∃ w1, w1 = W.alloc (.cells #[.int .i64 k, .int .u64 u, .string s, .slice A0 n0 c0, .int .i64 o, .slice A1 n1 c1] 25) := ⟨_, rfl⟩
  have hp1 : Blk w1 W.heap.size 25 [.int .i64 k, .int .u64 u, .string s, .slice A0 n0 c0, .int .i64 o, .slice A1 n1 c1] := by rw [hw1]; exact Blk.new W 25 [.int .i64 k, .int .u64 u, .string s, .slice A0 n0 c0, .int .i64 o, .slice A1 n1 c1]
  have hbw1 : Below W.heap.size W w1 := by rw [hw1]; exact (Below.refl _ W).alloc (Nat.le_refl _) _
  have hb1 : Blk w1 gf 77 [.int .u64 st, .bool sh] := by rw [hw1]; exact hb.alloc _
  have hz1 : w1.heap.size = W.heap.size + 1 := by rw [hw1]; simp
  have hk1 : 0 < n0 → ∃ g p, A0 = some ⟨g, p, none⟩ ∧ g < B ∧ ∀ i, i < n0 → ∃ Ai ci, VAt w1 g (p + i * 6) (K i) Ai ci ∧ TV w1 B (K i) Ai ci := fun h => by
    obtain ⟨g, p, hA, hg, hk⟩ := hk0 h
    refine ⟨g, p, hA, hg, fun i hi => ?_⟩
    obtain ⟨Ai, ci, h1, h2⟩ := hk i hi
    exact ⟨Ai, ci, h1.keep (fun q => (hbw1.mono hB).cell (p := ⟨g, q, none⟩) hg), TV.below (hbw1.mono hB) _ _ _ h2⟩
  have hcall := elements_of B gf sh hgf w1 st kind hkr n0 c0 A0 K (by omega) hb1 hn hk1 hkd hct ih
  have v3 := hp1.cell 3
  have v4 := hp1.cell 4
  simp only [List.getElem?_cons_zero, List.getElem?_cons_succ] at v3 v4
  have HC := Lib.hid hcall
  have HW1 := Lib.hid hw1
  have HP1 := Lib.hid hp1
  have HB1 := Lib.hid hb1
  have HBW1 := Lib.hid hbw1
  have HZ1 := Lib.hid hz1
  have HKR := Lib.hid hkr
  have HKD := Lib.hid hkd
  have HCT := Lib.hid hct
  have hmx : n0 ≤ 9223372036854775807 := by omega
  obtain ⟨i0, hi0, hiz0, hiz1, hiz2⟩ := info_parts infoU8
  obtain ⟨g, p, hA, hgB, hk⟩ := hk1 hz
  obtain ⟨Ai, ci, hva, htk⟩ := hk 0 hz
  rw [Nat.zero_mul, Nat.add_zero] at hva
  have hkk := hkd 0 hz
  subst hA
  have HVA := Lib.hid hva
  have HND := Lib.hid hnd
  obtain ⟨d0, d1, d2, d3, d4, d5⟩ := hva
  rw [hkk] at d0
  rw [hnd] at d5
  obtain ⟨hdc, hdm, hdk⟩ := (htk.open_).2 true
  obtain ⟨gd, pd, hAd, hgd, hkd2⟩ := hdk (by omega)
  obtain ⟨Ad9, cd9, hvad, htd⟩ := hkd2 0 (by omega)
  rw [Nat.zero_mul, Nat.add_zero] at hvad
  have HVAD := Lib.hid hvad
  have HTD := Lib.hid htd
  have HAD := Lib.hid hAd
  have HPV := Lib.hid hPV
  have HX := Lib.hid hX
  clear hdk hkd2 hvad htd hAd hPV hX hdc hdm
  have hzd : decide ((0 : Int) < (n0 : Int)) = true := decide_eq_true (by omega)
  have hzd2 : decide (0 < n0) = true := decide_eq_true (by omega)
  have hzi : (0 : Int) < (n0 : Int) := by omega
  have HKK := Lib.hid hkk
  clear hcall hw1 hp1 hb1 hbw1 hz1 hkr hkd hct ih hk1 hk0 hb hk hkk htk hnd
  generalize hT0 : K 0 = T0 at *
  have HT0 := Lib.hid hT0
  generalize T0.kid true 0 = X at *
  clear hT0
  go_enter Tryd.func89, Tryd.ntmps89
  go_upto_region 1 with (fail)
  rw [← HW1.out]
  go_upto_region 6 with (first
    | ((have HZ9 := HN3)
       go_at_call 65
       go_must (
         (refine (pick_calls w3 gf N st3 sh HB3.out hN0 (by omega)).mono ?_)
         rintro e w4 ⟨q, st4, rfl, hq, hb4, hg4⟩
         have hqi : q < L.length := by rw [← HN3.out]; exact hq
         have hpq : L[q]? = some L[q] := List.getElem?_eq_getElem hqi
         obtain ⟨u9, hu⟩ : ∃ u9, S[q]? = some u9 := ⟨S[q]'(by rw [HS3.out]; exact hqi), List.getElem?_eq_getElem _⟩
         obtain ⟨Ad, cd, hue, hod⟩ := HD3.out q _ u9 hpq hu
         obtain ⟨r1, r2⟩ := rowP_get L S q _ u9 hpq hu
         subst hue
         have hmem : L[q] ∈ L := List.getElem_mem hqi
         obtain ⟨pc, hpc⟩ : ∃ pc, L[q] = pc := ⟨_, rfl⟩
         rw [hpc] at r1 r2 hod hmem
         obtain ⟨code, hcode⟩ : ∃ code, pc.1 = code := ⟨_, rfl⟩
         obtain ⟨d, hd⟩ : ∃ d, pc.2 = d := ⟨_, rfl⟩
         obtain ⟨D, hD⟩ : ∃ D, d.length = D := ⟨_, rfl⟩
         have hpp := HEL.out.2.2 pc hmem
         rw [hcode, hd] at hpp
         rw [hcode] at r1
         rw [hd, hD] at r2
         rw [hd] at hod
         have hrow4 := HROW.out.kept hg4 (.inr (own_neH HROW.out HB3.out (by decide)))
         have hrd := Reads.of_own hrow4
         obtain ⟨ad, had, hlt4, hcell⟩ := hrd.2 hN0
         cases had
         have y0 := hcell _ _ r1
         have y1 := hcell _ _ r2
         rw [add_lit, Nat.zero_add] at y0 y1
         have hp4 := HP3.out.grown hg4 (fun e => HP3.out.ne_ HB3.out (by decide) (by injection e))
         have x34 := hp4.cell 3
         simp only [List.getElem?_cons_zero, List.getElem?_cons_succ] at x34
         have hz4 := hg4.size
         have HPP := Lib.hid hpp
         have HDL := Lib.hid hD
         have HOD := Lib.hid (hod.keptg HB3.out (by decide) hg4)
         have HP4 := Lib.hid hp4
         have HB4 := Lib.hid hb4
         have HG4 := Lib.hid (grownV_trans HG3.out hg4)
         have hqc : (q : Int) < (N : Int) := by omega
         have hqc0 : (0 : Int) ≤ (q : Int) := by omega
         clear hqi hpq hu hod r1 r2 hmem hpc hcode hd hD hpp hrow4 hrd hcell hp4 hb4 hg4))
    | ((have HZ8 := HC)
       go_at_call 99
       go_must (
         (refine HC.out.mono ?_)
         rintro e w3 ⟨v9, L, st3, rfl, hel, hpw, hb3, hg3⟩
         obtain ⟨A3, c3, S, rfl, hS, hrow, hdat⟩ := hpw
         obtain ⟨N, hN⟩ : ∃ N, N = L.length := ⟨_, rfl⟩
         rw [← hN] at hrow ⊢
         have hN0 : 0 < N := by
           rw [hN]
           exact List.length_pos_iff.2 (hel.2.1 rfl)
         have hN3 : N ≤ 2 := by rw [hN]; exact hel.1
         obtain ⟨g3, hA3⟩ : ∃ g3, A3 = some ⟨g3, 0, none⟩ := by
           rcases hrow.2 with ⟨hv, h0⟩ | ⟨g, cap, cur, hv, _⟩
           · omega
           · injection hv with hv
             exact ⟨g, hv⟩
         subst hA3
         have hz3 := hg3.size
         have HEL := Lib.hid hel
         have HROW := Lib.hid hrow
         have HD3 := Lib.hid hdat
         have HS3 := Lib.hid hS
         have HN3 := Lib.hid hN
         have HB3 := Lib.hid hb3
         have HP3 := Lib.hid (HP1.out.grown hg3 (fun e => HP1.out.ne_ HB1.out (by decide) (by injection e)))
         have HG3 := Lib.hid (grownV_trans (grown_of_below HBW1.out _) hg3)
         clear hel hrow hdat hS hN hb3 hg3)))
  have hpp := HPP.out
  have hcr : 0 ≤ code ∧ code ≤ 255 := by
    rcases hpp.2.1 with h | h
    · rw [h]; have := sho_in kind; omega
    · rw [h]; exact look_in codL 255 (by omega) (by decide) kind
  have hu8 : IntKind.u8.wrap code = code := by rw [IntKind.wrap_u8]; omega
  have hDs : D ≤ 70000000 := by have := hpp.2.2.2.1; rw [HDL.out] at this; have := HCT.out; omega
  obtain ⟨w5, hw5⟩ : ∃ w5, w5 = w4.alloc (.cells #[.int .i64 code, .slice Ad D cd] 118) := ⟨_, rfl⟩
  rw [← hw5]
  obtain ⟨w6, hw6⟩ : ∃ w6, w6 = w5.alloc (.cells #[.int .u8 code] 5) := ⟨_, rfl⟩
  have hb45 : Below w4.heap.size w4 w5 := by rw [hw5]; exact (Below.refl _ _).alloc (Nat.le_refl _) _
  have hb56 : Below w5.heap.size w5 w6 := by rw [hw6]; exact (Below.refl _ _).alloc (Nat.le_refl _) _
  have hz45 : w5.heap.size = w4.heap.size + 1 := by rw [hw5]; simp
  have hp5 : Blk w5 w4.heap.size 118 [.int .i64 code, .slice Ad D cd] := by rw [hw5]; exact Blk.new w4 _ [_, _]
  have hbl6 : Blk w6 w5.heap.size 5 [.int .u8 code] := by rw [hw6]; exact Blk.new w5 _ [_]
  have b46 : Below w4.heap.size w4 w6 := hb45.trans (hb56.mono (by omega))
  have hod6 := HOD.out.below b46
  have hrd6 := hod6.reads
  rw [HDL.out] at hrd6
  have hown6 := blk_own (base := w5.heap.size) (n := 1) hbl6 (Nat.le_refl _) (by simp) (by simp [maxLen])
  have p0 := hp5.cell 0
  have p1 := hp5.cell 1
  simp only [List.getElem?_cons_zero, List.getElem?_cons_succ] at p0 p1
  have hlt45 : w4.heap.size < w5.heap.size := by omega
  have HB46 := Lib.hid b46
  have HRD6 := Lib.hid hrd6
  have HOWN6 := Lib.hid hown6
  have HW6 := Lib.hid hw6
  have HBL6 := Lib.hid hbl6
  have HZ45 := Lib.hid hz45
  have HZ56 : Hid (w6.heap.size = w5.heap.size + 1) := Lib.hid (by rw [hw6]; simp)
  clear hpp hw5 hw6 hb45 hb56 hz45 hp5 hbl6 b46 hod6 hrd6 hown6 y0 y1 x34 hz4
  have hz56 : w5.heap.size ≤ w6.heap.size := by have := HZ56.out; omega
  go_wp2_with (first
    | ((have HZ7 := HCL)
       go_at_call 88
       go_must (
         (refine HCL.out.mono ?_)
         rintro e w8 ⟨v8, rfl, hpw8, hb8⟩
         have HPW8 := Lib.hid hpw8
         have HB8 := Lib.hid hb8
         clear hpw8 hb8))
    | ((have HZ5 := HPVC)
       go_at_call 36
       go_must (
         (rw [← HWD.out])
         refine HPVC.out.mono ?_
         rintro e w8 ⟨enc, A8, c8, st8, rfl, hfp, hown8, hb8, hg8⟩
         obtain ⟨E, hE⟩ : ∃ E, enc.length = E := ⟨_, rfl⟩
         rw [hE] at hown8 ⊢
         have hEb : E ≤ 140000 * X.cnt := by have h1 := hfp.2.2.1; rw [hE] at h1; exact h1
         have hbl8 : Blk w8 w7.heap.size 5 [.int .u8 0] := HBLD.out.grown hg8 (fun e => HBLD.out.ne_ HBGD.out (by decide) (by injection e))
         have hown78 := (own_belowH HOWN7.out HBWD.out).kept hg8 (.inr (own_neH (own_belowH HOWN7.out HBWD.out) HBGD.out (by decide)))
         have hp8 := HPD.out.grown hg8 (fun e => HPD.out.ne_ HBGD.out (by decide) (by injection e))
         have x83 := hp8.cell 3
         simp only [List.getElem?_cons_zero, List.getElem?_cons_succ] at x83
         have hz78 : w7.heap.size ≤ w8.heap.size := Nat.le_trans HBWD.out.size hg8.size
         have HO8 := Lib.hid (blk_own (base := w7.heap.size) (n := 1) hbl8 (Nat.le_refl _) (by simp) (by simp [maxLen]))
         have HRE8 := Lib.hid (Reads.of_own hown8)
         have HDAT8 := Lib.hid hown78
         have HFP := Lib.hid hfp
         have HEL8 := Lib.hid hE
         have HP8 := Lib.hid hp8
         have HB8F := Lib.hid hb8
         have HG8F : Hid (W.grownBy w8 (some gf)) := grownV_trans HGD.out hg8
         clear hfp hown8 hb8 hg8 hE hbl8 hown78 hp8))
    | ((have HZ6 := HRD6)
       at_builtin
       go_must (
         first
         | (refine wpList_append_any _ rfl (.tmp 62) (.tmp 63) 26 rfl w7.heap.size 5 i0 _ 1 1 Tryd.underlying26 hi0 hiz0 hiz1 hiz2 rfl (by omega) _ M9 (bs (0 :: enc)) rfl HO9.out w9.heap.size A7 M c7 (bs (code :: d)) rfl (Reads.of_own HDAT9.out) (bs_one _) (by simp only [maxLen]; omega) (by omega) hz79 ?_
            go_must (
              (intro v1 w10 hown10 hg10 hat10)
              obtain ⟨A10, c10, rfl⟩ := own_formP hown10
              rw [← bs_append] at hown10
              obtain ⟨M10, hM10⟩ : ∃ M10, M9 + M = M10 := ⟨_, rfl⟩
              rw [hM10] at hown10 ⊢
              have hdl10 : ((0 :: enc) ++ (code :: d)).length = M10 := by rw [List.length_append, List.length_cons, HEL8.out, hdl]; omega
              have hb10 := HB9F.out.grown hg10 (fun e => own_neH HO9.out HB9F.out (by decide) e.symm)
              have hp10 := HP9.out.grown hg10 (fun e => own_neH HO9.out HP9.out (by decide) e.symm)
              have hgr10 := grownV_fresh HG9F.out hg10 (fun j hj => by have := (HO9.out.lt j hj).1; omega)
              have x103 := hp10.cell 3
              simp only [List.getElem?_cons_zero, List.getElem?_cons_succ] at x103
              have hcl := lengthed_cnt w10 224 240 n0 hn ((0 :: enc) ++ (code :: d)) A10 c10 (by rw [hdl10]; exact Reads.of_own hown10) (by rw [hdl10]; omega)
              rw [hdl10] at hcl
              have HCL := Lib.hid hcl
              have HB10 := Lib.hid hb10
              have HG10 := Lib.hid hgr10
              have HZW10 : Hid (W.heap.size ≤ w10.heap.size) := Lib.hid hgr10.size
              clear hown10 hg10 hat10 hb10 hp10 hgr10 hcl))
         | (refine wpList_append_any _ rfl (.tmp 52) (.tmp 61) 26 rfl w7.heap.size 5 i0 _ 1 1 Tryd.underlying26 hi0 hiz0 hiz1 hiz2 rfl (by omega) _ 1 [.int .u8 0] rfl HO8.out w8.heap.size A8 E c8 (bs enc) rfl HRE8.out (bs_one _) (by simp only [maxLen]; omega) (by omega) hz78 ?_
            intro v1 w9 hown9 hg9 hat9
            obtain ⟨A9, c9, rfl⟩ := own_formP hown9
            obtain ⟨M9, hM9⟩ : ∃ M9, 1 + E = M9 := ⟨_, rfl⟩
            rw [hM9] at hown9 ⊢
            have hro9 : ∀ jb, (Value.slice (some (⟨w7.heap.size, 0, none⟩ : Addr)) 1 1).ownBlock = some jb → jb = w7.heap.size := fun jb hjb => (Option.some.inj (show some w7.heap.size = some jb from hjb)).symm
            have hdat9 := HDAT8.out.kept hg9 (.inr (fun e => by
              rcases hv : (Value.slice A7 M c7).ownBlock with _ | jb
              · rw [hv] at e; cases e
              · have h1 := (HOWN7.out.lt jb hv).2
                have h2 := hro9 jb (e.symm.trans hv)
                omega))
            have hb9 := HB8F.out.grown hg9 (fun e => by have := hro9 gf e.symm; have := HB7.out.lt; omega)
            have hp9 := HP8.out.grown hg9 (fun e => by have := hro9 _ e.symm; have := HP4.out.lt; have := HPD.out; omega)
            have hgr9 := grownV_fresh HG8F.out hg9 (fun j hj => by have := hro9 j hj; omega)
            have hz79 : w7.heap.size ≤ w9.heap.size := Nat.le_trans hz78 hg9.size
            have HO9 : Hid (w9.ownsRow w7.heap.size 5 1 (.slice A9 M9 c9) M9 (bs (0 :: enc))) := hown9
            have HDAT9 := Lib.hid hdat9
            have HB9F := Lib.hid hb9
            have HP9 := Lib.hid hp9
            have HG9F := Lib.hid hgr9
            clear hown9 hg9 hat9 hro9 hdat9 hb9 hp9 hgr9)
         | (rw [← HW6.out]
            refine wpList_append_any _ rfl (.tmp 35) (.tmp 37) 26 rfl w5.heap.size 5 i0 _ 1 1 Tryd.underlying26 hi0 hiz0 hiz1 hiz2 rfl (by omega) _ 1 [.int .u8 code] rfl HOWN6.out w6.heap.size Ad D cd (bs d) rfl HRD6.out (bs_one _) (by simp only [maxLen]; omega) (by omega) hz56 ?_
            intro v1 w7 hown7 hg7 hat7
            obtain ⟨A7, c7, rfl⟩ := own_formP hown7
            obtain ⟨M, hM⟩ : ∃ M, 1 + D = M := ⟨_, rfl⟩
            rw [hM] at hown7 ⊢
            have hdl : (code :: d).length = M := by rw [List.length_cons, HDL.out]; omega
            have hro : ∀ jb, (Value.slice (some (⟨w5.heap.size, 0, none⟩ : Addr)) 1 1).ownBlock = some jb → w5.heap.size ≤ jb := fun jb hjb => by
              have := Option.some.inj (show some w5.heap.size = some jb from hjb)
              omega
            have hb67 : Below w5.heap.size w6 w7 := belowV hg7 hro hz56
            have hb47 : Below w4.heap.size w4 w7 := HB46.out.trans (hb67.mono (by omega))
            have hp7 := HP4.out.below hb47 HP4.out.lt
            have x73 := hp7.cell 3
            simp only [List.getElem?_cons_zero, List.getElem?_cons_succ] at x73
            have HB7 := Lib.hid (HB4.out.below hb47 HB4.out.lt)
            have HG7 : Hid (W.grownBy w7 (some gf)) := grownV_trans HG4.out (grown_of_below hb47 _)
            have HZW7 : Hid (W.heap.size ≤ w7.heap.size) := HG7.out.size
            have hMs : M + 140000 * X.cnt ≤ 70000001 := by have h1 := HPP.out.2.2.2.1; rw [HDL.out] at h1; have h2 := HX.out; omega
            have hbel7 : Below B W w7 := belowV HG7.out (fun j hj => by injection hj with hj; omega) hB
            have hw17 : ∀ g' q, g' < B → w7.cell? ⟨g', q, none⟩ = w1.cell? ⟨g', q, none⟩ := fun g' q hg' => (hbel7.cell (p := ⟨g', q, none⟩) hg').trans ((HBW1.out.mono hB).cell (p := ⟨g', q, none⟩) hg').symm
            obtain ⟨e0, e1, e2, e3, e4, e5⟩ := HVA.out.keep (W' := w7) (fun q => hw17 g q hgB)
            rw [HND.out, HAD.out] at e5
            obtain ⟨f0, f1, f2, f3, f4, f5⟩ := HVAD.out.keep (W' := w7) (fun q => hw17 gd q hgd)
            obtain ⟨wd, hwd⟩ : ∃ wd, wd = w7.alloc (.cells #[.int .u8 0] 5) := ⟨_, rfl⟩
            have hwlt : W.heap.size ≤ w7.heap.size := HG7.out.size
            have hwlt2 : W.heap.size < w7.heap.size := hp7.lt
            have hgw7 : g < w7.heap.size := by omega
            have hgdw7 : gd < w7.heap.size := by omega
            have hbwd : Below w7.heap.size w7 wd := by rw [hwd]; exact (Below.refl _ _).alloc (Nat.le_refl _) _
            have hbld : Blk wd w7.heap.size 5 [.int .u8 0] := by rw [hwd]; exact Blk.new w7 _ [_]
            have hbelw : ∀ q : Nat, True := fun _ => trivial
            have htdw : TV wd B X Ad9 cd9 := by
              have hb17 : Below B w1 w7 := ⟨hbel7.os.trans HBW1.out.os.symm, hbel7.tape.trans HBW1.out.tape.symm, hbel7.output.trans HBW1.out.output.symm, by have := HZ1.out; omega, fun k hk => (hbel7.block k hk).trans ((HBW1.out.mono hB).block k hk).symm⟩
              exact TV.below (hb17.trans (hbwd.mono (by omega))) _ _ _ HTD.out
            have hpvc := HPV.out wd st4 Ad9 cd9 htdw (by have := hbwd.size; omega) (HB7.out.below hbwd HB7.out.lt)
            unfold vV at hpvc
            have HWD := Lib.hid hwd
            have HBWD := Lib.hid hbwd
            have HBLD := Lib.hid hbld
            have HBGD := Lib.hid (HB7.out.below hbwd HB7.out.lt)
            have HPD := Lib.hid (hp7.below hbwd hp7.lt)
            have HGD : Hid (W.grownBy wd (some gf)) := grownV_trans HG7.out (grown_of_below hbwd _)
            have HOWN7 := Lib.hid hown7
            have HPVC := Lib.hid hpvc
            clear hbel7 hw17 hwd hbwd hbld hbelw htdw hpvc
            clear hown7 hg7 hat7 hM hro hb67 hb47 hp7))))
  go_ret
  have hpp := HPP.out
  refine ⟨v8, (0 :: enc) ++ (code :: d), st8, rfl, ?_, ?_, .inl ⟨hz, by have := HND.out; rw [← HT0.out] at this; omega, _, rfl⟩, HPW8.out.lower HZW10.out, HB10.out.below HB8.out HB10.out.lt, grownV_trans HG10.out (grown_of_below HB8.out _)⟩
  · refine isB_append (fun x hx => ?_) (fun x hx => ?_)
    · rcases List.mem_cons.1 hx with rfl | hx
      · omega
      · exact HFP.out.1 x hx
    · rcases List.mem_cons.1 hx with rfl | hx
      · exact hcr
      · exact hpp.2.2.1 x hx
  · rw [List.length_append, List.length_cons, List.length_cons]
    have h1 := HFP.out.2.2.1
    have h2 := hpp.2.2.2.1
    omega
end Go.Proofs.YtjjhckbidcdkcaaDoor

namespace Go.Proofs.YtjjhckbidcdkcaaDoor
open Go.RowKit
set_option linter.unusedVariables false

theorem cnt_cntK (T : VT) : T.cnt = cntK T + sumV (fun i => (T.kid true i).cnt) (T.n true) := by
  rw [VT.cnt_eq]; rfl
theorem sum_cntK_le (K : Nat → VT) : ∀ n, sumV (fun i => cntK (K i)) n ≤ sumV (fun i => (K i).cnt) n
  | 0 => Nat.le_refl _
  | n + 1 => by
    have h1 := sum_cntK_le K n
    have h2 := cnt_cntK (K n)
    simp only [sumV]
    omega
theorem sum_cntK_desc (K : Nat → VT) (D : Nat) (hD : cntK (K 0) + D ≤ (K 0).cnt) : ∀ n, 0 < n → sumV (fun i => cntK (K i)) n + D ≤ sumV (fun i => (K i).cnt) n
  | 1, _ => by simp only [sumV]; omega
  | n + 2, _ => by
    have h1 := sum_cntK_desc K D hD (n + 1) (by omega)
    have h2 := cnt_cntK (K (n + 1))
    have e1 : sumV (fun i => cntK (K i)) (n + 2) = sumV (fun i => cntK (K i)) (n + 1) + cntK (K (n + 1)) := rfl
    have e2 : sumV (fun i => (K i).cnt) (n + 2) = sumV (fun i => (K i).cnt) (n + 1) + (K (n + 1)).cnt := rfl
    omega
theorem ArPost.more {gf : Nat} {sh : Bool} {kind : Int} {K : Nat → VT} {n0 b b' : Nat} {W : World} {e : Ending} {W' : World} (h : ArPost gf sh kind K n0 b W e W') (hb : b ≤ b') : ArPost gf sh kind K n0 b' W e W' := by
  obtain ⟨v, data, st, h1, h2, h3, h4⟩ := h
  exact ⟨v, data, st, h1, h2, Nat.le_trans h3 hb, h4⟩
/-- array at a value. -/
theorem ar_of (B gf : Nat) (sh : Bool) (hgf : B ≤ gf) (k u o : Int) (s : ByteArray) (n : Bool → Nat) (f : Bool → Nat → VT)
    (hz : n false = 0 → 0 ≤ o ∧ o < 24) (hsame : ∀ i, i < n false → (f false i).k = (f false 0).k) (hkr : ∀ i, i < n false → 0 ≤ (f false i).k ∧ (f false i).k < 24 ∧ (f false i).n true ≤ 1)
    (hn : n false ≤ 1000) (hct : cntK (.mk k u s o n f) ≤ 500) (ih : ∀ i, i < n false → PC B gf sh (f false i).bare) (ihd : 0 < n false → (f false 0).n true = 1 → PV B gf sh ((f false 0).kid true 0)) :
    AR B gf sh (.mk k u s o n f) := by
  intro W st A c h hB hb
  obtain ⟨hwf, hk⟩ := h.open_
  obtain ⟨hnc0, hcm0, hk0⟩ := hk false
  have hcK : cntK (.mk k u s o n f) = 1 + sumV (fun i => (f false i).cnt) (n false) := rfl
  have hle := sum_cntK_le (f false) (n false)
  show Calls _ _ #[.pointer (some ⟨gf, 0, none⟩), .agg #[.int .i64 k, .int .u64 u, .string s, .slice (A false) (n false) (c false), .int .i64 o, .slice (A true) (n true) (c true)]] W (ArPost gf sh (ofK (.mk k u s o n f)) (f false) (n false) (140000 * cntK (.mk k u s o n f) - 18) W)
  rw [hcK] at hct ⊢
  by_cases hz0 : n false = 0
  · have hof : ofK (.mk k u s o n f) = o := by unfold ofK; rw [if_neg (show ¬ 0 < (VT.mk k u s o n f).n false by show ¬ 0 < n false; omega)]; rfl
    rw [hof]
    refine (array_a B gf sh hgf W st k u o o s (n false) (n true) (c false) (c true) (A false) (A true) (f false) hB hb (hz hz0) hn hk0 (fun i hi => absurd hi (by omega)) (by omega) ih hz0 rfl).mono fun e W' hp => hp.more (by omega)
  · have hpos : 0 < n false := by omega
    have hof : ofK (.mk k u s o n f) = (f false 0).k := by unfold ofK; rw [if_pos (show 0 < (VT.mk k u s o n f).n false from hpos)]; rfl
    rw [hof]
    obtain ⟨hr0, hr1, hr2⟩ := hkr 0 hpos
    by_cases hd : (f false 0).n true = 0
    · exact (array_b B gf sh hgf W st k u o (f false 0).k s (n false) (n true) (c false) (c true) (A false) (A true) (f false) hB hb ⟨hr0, hr1⟩ hn hk0 hsame (by omega) ih hpos hd).mono fun e W' hp => hp.more (by omega)
    · have hd1 : (f false 0).n true = 1 := by omega
      have hc0 := cnt_cntK (f false 0)
      rw [hd1] at hc0
      simp only [sumV] at hc0
      have hs := sum_cntK_desc (f false) ((f false 0).kid true 0).cnt (by omega) (n false) hpos
      exact (array_c B gf sh hgf W st k u o (f false 0).k s (n false) (n true) (c false) (c true) (A false) (A true) (f false) hB hb ⟨hr0, hr1⟩ hn hk0 hsame (by omega) ih hpos hd1 (ihd hpos hd1) (by omega)).mono fun e W' hp => hp.more (by omega)
end Go.Proofs.YtjjhckbidcdkcaaDoor
