/- spec.array, given pieces at the values and PutValue at the first one's descriptor. PRINTED by wip/genid.py. -/
import Derived.Test.YtjjhckbidcdkcaaDoorIc
namespace Go.Proofs.YtjjhckbidcdkcaaDoor
open Go.RowKit
set_option linter.unusedVariables false

/-- What a call of array tells: the forms of what stands in it. -/
def ArPost (gf : Nat) (sh : Bool) (kind : Int) (K : Nat → VT) (n0 : Nat) (bound : Nat) (W : World) (e : Ending) (W' : World) : Prop := ∃ v data st', e = .returned v ∧ IsB data ∧ data.length ≤ bound ∧
  ((0 < n0 ∧ 0 < (K 0).n true ∧ ∃ r, data = 0 :: r) ∨ (¬ (0 < n0 ∧ 0 < (K 0).n true) ∧ ∃ code d, data = code :: d ∧ code ≠ 0 ∧ (code = sho kind ∨ code = cod kind) ∧ ElemG K n0 code d)) ∧
  PcsW W' W.heap.size (lenP 224 240 data (n0 : Int)) v ∧ Blk W' gf 77 [.int .u64 st', .bool sh] ∧ W.grownBy W' (some gf)
set_option maxHeartbeats 4000000 in
set_option maxRecDepth 100000 in
theorem array_a (B gf : Nat) (sh : Bool) (hgf : B ≤ gf) (W : World) (st k u o kind : Int) (s : ByteArray) (n0 n1 c0 c1 : Nat) (A0 A1 : Option Addr) (K : Nat → VT) (hB : B ≤ W.heap.size) (hb : Blk W gf 77 [.int .u64 st, .bool sh])
    (hkr : 0 ≤ kind ∧ kind < 24) (hn : n0 ≤ 1000) (hk0 : 0 < n0 → ∃ g p, A0 = some ⟨g, p, none⟩ ∧ g < B ∧ ∀ i, i < n0 → ∃ Ai ci, VAt W g (p + i * 6) (K i) Ai ci ∧ TV W B (K i) Ai ci) (hkd : ∀ i, i < n0 → (K i).k = kind) (hct : sumV (fun i => cntK (K i)) n0 ≤ 500)
    (ih : ∀ i, i < n0 → PC B gf sh (K i).bare) (hz : n0 = 0) (hko : o = kind) :
    Calls Tryd.prog 89 #[.pointer (some ⟨gf, 0, none⟩), .agg #[.int .i64 k, .int .u64 u, .string s, .slice A0 n0 c0, .int .i64 o, .slice A1 n1 c1]] W (ArPost gf sh kind K n0 (140000 * sumV (fun i => cntK (K i)) n0 + 1) W) := by
  obtain ⟨w1, hw1⟩ : ∃ w1, w1 = W.alloc (.cells #[.int .i64 k, .int .u64 u, .string s, .slice A0 n0 c0, .int .i64 o, .slice A1 n1 c1] 25) := ⟨_, rfl⟩
  have hp1 : Blk w1 W.heap.size 25 [.int .i64 k, .int .u64 u, .string s, .slice A0 n0 c0, .int .i64 o, .slice A1 n1 c1] := by rw [hw1]; exact Blk.new W 25 [.int .i64 k, .int .u64 u, .string s, .slice A0 n0 c0, .int .i64 o, .slice A1 n1 c1]
  have hbw1 : Below W.heap.size W w1 := by rw [hw1]; exact (Below.refl _ W).alloc (Nat.le_refl _) _
  have hb1 : Blk w1 gf 77 [.int .u64 st, .bool sh] := by rw [hw1]; exact hb.alloc _
  have hz1 : w1.heap.size = W.heap.size + 1 := by rw [hw1]; simp
  have hk1 : 0 < n0 → ∃ g p, A0 = some ⟨g, p, none⟩ ∧ g < B ∧ ∀ i, i < n0 → ∃ Ai ci, VAt w1 g (p + i * 6) (K i) Ai ci ∧ TV w1 B (K i) Ai ci := fun h => by
    obtain ⟨g, p, hA, hg, hk⟩ := hk0 h
    refine ⟨g, p, hA, hg, fun i hi => ?_⟩
    obtain ⟨Ai, ci, h1, h2⟩ := hk i hi
    exact ⟨Ai, ci, h1.keep (fun q => (hbw1.mono hB).cell (p := ⟨g, q, none⟩) hg), TV.below (hbw1.mono hB) _ _ _ h2⟩
  have hcall := elements_of B gf sh hgf w1 st kind hkr n0 c0 A0 K (by omega) hb1 hn hk1 hkd hct ih
  have v3 := hp1.cell 3
  have v4 := hp1.cell 4
  simp only [List.getElem?_cons_zero, List.getElem?_cons_succ] at v3 v4
  have HC := Lib.hid hcall
  have HW1 := Lib.hid hw1
  have HP1 := Lib.hid hp1
  have HB1 := Lib.hid hb1
  have HBW1 := Lib.hid hbw1
  have HZ1 := Lib.hid hz1
  have HKR := Lib.hid hkr
  have HKD := Lib.hid hkd
  have HCT := Lib.hid hct
  have hmx : n0 ≤ 9223372036854775807 := by omega
  obtain ⟨i0, hi0, hiz0, hiz1, hiz2⟩ := info_parts infoU8
  subst hko
  have HZN := Lib.hid hz
  have hzd : decide ((0 : Int) < (n0 : Int)) = false := decide_eq_false (by omega)
  have hzd2 : decide (0 < n0) = false := decide_eq_false (by omega)
  clear hcall hw1 hp1 hb1 hbw1 hz1 hkr hkd hct ih hk1 hk0 hb hz
  go_enter Tryd.func89, Tryd.ntmps89
  go_upto_region 1 with (fail)
  rw [← HW1.out]
  go_upto_region 6 with (first
    | ((have HZ9 := HN3)
       go_at_call 65
       go_must (
         (refine (pick_calls w3 gf N st3 sh HB3.out hN0 (by omega)).mono ?_)
         rintro e w4 ⟨q, st4, rfl, hq, hb4, hg4⟩
         have hqi : q < L.length := by rw [← HN3.out]; exact hq
         have hpq : L[q]? = some L[q] := List.getElem?_eq_getElem hqi
         obtain ⟨u9, hu⟩ : ∃ u9, S[q]? = some u9 := ⟨S[q]'(by rw [HS3.out]; exact hqi), List.getElem?_eq_getElem _⟩
         obtain ⟨Ad, cd, hue, hod⟩ := HD3.out q _ u9 hpq hu
         obtain ⟨r1, r2⟩ := rowP_get L S q _ u9 hpq hu
         subst hue
         have hmem : L[q] ∈ L := List.getElem_mem hqi
         obtain ⟨pc, hpc⟩ : ∃ pc, L[q] = pc := ⟨_, rfl⟩
         rw [hpc] at r1 r2 hod hmem
         obtain ⟨code, hcode⟩ : ∃ code, pc.1 = code := ⟨_, rfl⟩
         obtain ⟨d, hd⟩ : ∃ d, pc.2 = d := ⟨_, rfl⟩
         obtain ⟨D, hD⟩ : ∃ D, d.length = D := ⟨_, rfl⟩
         have hpp := HEL.out.2.2 pc hmem
         rw [hcode, hd] at hpp
         rw [hcode] at r1
         rw [hd, hD] at r2
         rw [hd] at hod
         have hrow4 := HROW.out.kept hg4 (.inr (own_neH HROW.out HB3.out (by decide)))
         have hrd := Reads.of_own hrow4
         obtain ⟨ad, had, hlt4, hcell⟩ := hrd.2 hN0
         cases had
         have y0 := hcell _ _ r1
         have y1 := hcell _ _ r2
         rw [add_lit, Nat.zero_add] at y0 y1
         have hp4 := HP3.out.grown hg4 (fun e => HP3.out.ne_ HB3.out (by decide) (by injection e))
         have x34 := hp4.cell 3
         simp only [List.getElem?_cons_zero, List.getElem?_cons_succ] at x34
         have hz4 := hg4.size
         have HPP := Lib.hid hpp
         have HDL := Lib.hid hD
         have HOD := Lib.hid (hod.keptg HB3.out (by decide) hg4)
         have HP4 := Lib.hid hp4
         have HB4 := Lib.hid hb4
         have HG4 := Lib.hid (grownV_trans HG3.out hg4)
         have hqc : (q : Int) < (N : Int) := by omega
         have hqc0 : (0 : Int) ≤ (q : Int) := by omega
         clear hqi hpq hu hod r1 r2 hmem hpc hcode hd hD hpp hrow4 hrd hcell hp4 hb4 hg4))
    | ((have HZ8 := HC)
       go_at_call 99
       go_must (
         (refine HC.out.mono ?_)
         rintro e w3 ⟨v9, L, st3, rfl, hel, hpw, hb3, hg3⟩
         obtain ⟨A3, c3, S, rfl, hS, hrow, hdat⟩ := hpw
         obtain ⟨N, hN⟩ : ∃ N, N = L.length := ⟨_, rfl⟩
         rw [← hN] at hrow ⊢
         have hN0 : 0 < N := by
           rw [hN]
           exact List.length_pos_iff.2 (hel.2.1 rfl)
         have hN3 : N ≤ 2 := by rw [hN]; exact hel.1
         obtain ⟨g3, hA3⟩ : ∃ g3, A3 = some ⟨g3, 0, none⟩ := by
           rcases hrow.2 with ⟨hv, h0⟩ | ⟨g, cap, cur, hv, _⟩
           · omega
           · injection hv with hv
             exact ⟨g, hv⟩
         subst hA3
         have hz3 := hg3.size
         have HEL := Lib.hid hel
         have HROW := Lib.hid hrow
         have HD3 := Lib.hid hdat
         have HS3 := Lib.hid hS
         have HN3 := Lib.hid hN
         have HB3 := Lib.hid hb3
         have HP3 := Lib.hid (HP1.out.grown hg3 (fun e => HP1.out.ne_ HB1.out (by decide) (by injection e)))
         have HG3 := Lib.hid (grownV_trans (grown_of_below HBW1.out _) hg3)
         clear hel hrow hdat hS hN hb3 hg3)))
  have hpp := HPP.out
  have hcr : 0 ≤ code ∧ code ≤ 255 := by
    rcases hpp.2.1 with h | h
    · rw [h]; have := sho_in o; omega
    · rw [h]; exact look_in codL 255 (by omega) (by decide) o
  have hu8 : IntKind.u8.wrap code = code := by rw [IntKind.wrap_u8]; omega
  have hDs : D ≤ 70000000 := by have := hpp.2.2.2.1; rw [HDL.out] at this; have := HCT.out; omega
  obtain ⟨w5, hw5⟩ : ∃ w5, w5 = w4.alloc (.cells #[.int .i64 code, .slice Ad D cd] 118) := ⟨_, rfl⟩
  rw [← hw5]
  obtain ⟨w6, hw6⟩ : ∃ w6, w6 = w5.alloc (.cells #[.int .u8 code] 5) := ⟨_, rfl⟩
  have hb45 : Below w4.heap.size w4 w5 := by rw [hw5]; exact (Below.refl _ _).alloc (Nat.le_refl _) _
  have hb56 : Below w5.heap.size w5 w6 := by rw [hw6]; exact (Below.refl _ _).alloc (Nat.le_refl _) _
  have hz45 : w5.heap.size = w4.heap.size + 1 := by rw [hw5]; simp
  have hp5 : Blk w5 w4.heap.size 118 [.int .i64 code, .slice Ad D cd] := by rw [hw5]; exact Blk.new w4 _ [_, _]
  have hbl6 : Blk w6 w5.heap.size 5 [.int .u8 code] := by rw [hw6]; exact Blk.new w5 _ [_]
  have b46 : Below w4.heap.size w4 w6 := hb45.trans (hb56.mono (by omega))
  have hod6 := HOD.out.below b46
  have hrd6 := hod6.reads
  rw [HDL.out] at hrd6
  have hown6 := blk_own (base := w5.heap.size) (n := 1) hbl6 (Nat.le_refl _) (by simp) (by simp [maxLen])
  have p0 := hp5.cell 0
  have p1 := hp5.cell 1
  simp only [List.getElem?_cons_zero, List.getElem?_cons_succ] at p0 p1
  have hlt45 : w4.heap.size < w5.heap.size := by omega
  have HB46 := Lib.hid b46
  have HRD6 := Lib.hid hrd6
  have HOWN6 := Lib.hid hown6
  have HW6 := Lib.hid hw6
  have HBL6 := Lib.hid hbl6
  have HZ45 := Lib.hid hz45
  have HZ56 : Hid (w6.heap.size = w5.heap.size + 1) := Lib.hid (by rw [hw6]; simp)
  clear hpp hw5 hw6 hb45 hb56 hz45 hp5 hbl6 b46 hod6 hrd6 hown6 y0 y1 x34 hz4
  have hz56 : w5.heap.size ≤ w6.heap.size := by have := HZ56.out; omega
  go_wp2_with (first
    | ((have HZ7 := HCL)
       go_at_call 88
       go_must (
         (refine HCL.out.mono ?_)
         rintro e w8 ⟨v8, rfl, hpw8, hb8⟩
         have HPW8 := Lib.hid hpw8
         have HB8 := Lib.hid hb8
         clear hpw8 hb8))
    | ((have HZ6 := HRD6)
       at_builtin
       go_must (
         (rw [← HW6.out])
         refine wpList_append_any _ rfl (.tmp 35) (.tmp 37) 26 rfl w5.heap.size 5 i0 _ 1 1 Tryd.underlying26 hi0 hiz0 hiz1 hiz2 rfl (by omega) _ 1 [.int .u8 code] rfl HOWN6.out w6.heap.size Ad D cd (bs d) rfl HRD6.out (bs_one _) (by simp only [maxLen]; omega) (by omega) hz56 ?_
         intro v1 w7 hown7 hg7 hat7
         obtain ⟨A7, c7, rfl⟩ := own_formP hown7
         obtain ⟨M, hM⟩ : ∃ M, 1 + D = M := ⟨_, rfl⟩
         rw [hM] at hown7 ⊢
         have hdl : (code :: d).length = M := by rw [List.length_cons, HDL.out]; omega
         have hro : ∀ jb, (Value.slice (some (⟨w5.heap.size, 0, none⟩ : Addr)) 1 1).ownBlock = some jb → w5.heap.size ≤ jb := fun jb hjb => by
           have := Option.some.inj (show some w5.heap.size = some jb from hjb)
           omega
         have hb67 : Below w5.heap.size w6 w7 := belowV hg7 hro hz56
         have hb47 : Below w4.heap.size w4 w7 := HB46.out.trans (hb67.mono (by omega))
         have hrd7 : Reads w7 w7.heap.size 1 A7 (code :: d).length (bs (code :: d)) := by rw [hdl]; exact Reads.of_own hown7
         have hcl := lengthed_cnt w7 224 240 n0 hn (code :: d) A7 c7 hrd7 (by rw [hdl]; omega)
         rw [hdl] at hcl
         have hp7 := HP4.out.below hb47 HP4.out.lt
         have x73 := hp7.cell 3
         simp only [List.getElem?_cons_zero, List.getElem?_cons_succ] at x73
         have HCL := Lib.hid hcl
         have HB7 := Lib.hid (HB4.out.below hb47 HB4.out.lt)
         have HG7 : Hid (W.grownBy w7 (some gf)) := grownV_trans HG4.out (grown_of_below hb47 _)
         have HZW7 : Hid (W.heap.size ≤ w7.heap.size) := HG7.out.size
         clear hown7 hg7 hat7 hM hro hb67 hb47 hrd7 hcl hp7)))
  go_ret
  have hpp := HPP.out
  refine ⟨v8, code :: d, st4, rfl, ?_, by rw [List.length_cons]; have := hpp.2.2.2.1; omega, .inr ⟨fun h => by have := HZN.out; omega, code, d, rfl, hpp.1, hpp.2.1, hpp.2.2.2.2⟩, HPW8.out.lower HZW7.out, HB7.out.below HB8.out HB7.out.lt, grownV_trans HG7.out (grown_of_below HB8.out _)⟩
  intro x hx
  rcases List.mem_cons.1 hx with rfl | hx
  · exact hcr
  · exact hpp.2.2.1 x hx
set_option maxHeartbeats 4000000 in
set_option maxRecDepth 100000 in
theorem array_b (B gf : Nat) (sh : Bool) (hgf : B ≤ gf) (W : World) (st k u o kind : Int) (s : ByteArray) (n0 n1 c0 c1 : Nat) (A0 A1 : Option Addr) (K : Nat → VT) (hB : B ≤ W.heap.size) (hb : Blk W gf 77 [.int .u64 st, .bool sh])
    (hkr : 0 ≤ kind ∧ kind < 24) (hn : n0 ≤ 1000) (hk0 : 0 < n0 → ∃ g p, A0 = some ⟨g, p, none⟩ ∧ g < B ∧ ∀ i, i < n0 → ∃ Ai ci, VAt W g (p + i * 6) (K i) Ai ci ∧ TV W B (K i) Ai ci) (hkd : ∀ i, i < n0 → (K i).k = kind) (hct : sumV (fun i => cntK (K i)) n0 ≤ 500)
    (ih : ∀ i, i < n0 → PC B gf sh (K i).bare) (hz : 0 < n0) (hnd : (K 0).n true = 0) :
    Calls Tryd.prog 89 #[.pointer (some ⟨gf, 0, none⟩), .agg #[.int .i64 k, .int .u64 u, .string s, .slice A0 n0 c0, .int .i64 o, .slice A1 n1 c1]] W (ArPost gf sh kind K n0 (140000 * sumV (fun i => cntK (K i)) n0 + 1) W) := by
  obtain ⟨w1, hw1⟩ : ∃ w1, w1 = W.alloc (.cells #[.int .i64 k, .int .u64 u, .string s, .slice A0 n0 c0, .int .i64 o, .slice A1 n1 c1] 25) := ⟨_, rfl⟩
  have hp1 : Blk w1 W.heap.size 25 [.int .i64 k, .int .u64 u, .string s, .slice A0 n0 c0, .int .i64 o, .slice A1 n1 c1] := by rw [hw1]; exact Blk.new W 25 [.int .i64 k, .int .u64 u, .string s, .slice A0 n0 c0, .int .i64 o, .slice A1 n1 c1]
  have hbw1 : Below W.heap.size W w1 := by rw [hw1]; exact (Below.refl _ W).alloc (Nat.le_refl _) _
  have hb1 : Blk w1 gf 77 [.int .u64 st, .bool sh] := by rw [hw1]; exact hb.alloc _
  have hz1 : w1.heap.size = W.heap.size + 1 := by rw [hw1]; simp
  have hk1 : 0 < n0 → ∃ g p, A0 = some ⟨g, p, none⟩ ∧ g < B ∧ ∀ i, i < n0 → ∃ Ai ci, VAt w1 g (p + i * 6) (K i) Ai ci ∧ TV w1 B (K i) Ai ci := fun h => by
    obtain ⟨g, p, hA, hg, hk⟩ := hk0 h
    refine ⟨g, p, hA, hg, fun i hi => ?_⟩
    obtain ⟨Ai, ci, h1, h2⟩ := hk i hi
    exact ⟨Ai, ci, h1.keep (fun q => (hbw1.mono hB).cell (p := ⟨g, q, none⟩) hg), TV.below (hbw1.mono hB) _ _ _ h2⟩
  have hcall := elements_of B gf sh hgf w1 st kind hkr n0 c0 A0 K (by omega) hb1 hn hk1 hkd hct ih
  have v3 := hp1.cell 3
  have v4 := hp1.cell 4
  simp only [List.getElem?_cons_zero, List.getElem?_cons_succ] at v3 v4
  have HC := Lib.hid hcall
  have HW1 := Lib.hid hw1
  have HP1 := Lib.hid hp1
  have HB1 := Lib.hid hb1
  have HBW1 := Lib.hid hbw1
  have HZ1 := Lib.hid hz1
  have HKR := Lib.hid hkr
  have HKD := Lib.hid hkd
  have HCT := Lib.hid hct
  have hmx : n0 ≤ 9223372036854775807 := by omega
  obtain ⟨i0, hi0, hiz0, hiz1, hiz2⟩ := info_parts infoU8
  obtain ⟨g, p, hA, hgB, hk⟩ := hk1 hz
  obtain ⟨Ai, ci, hva, htk⟩ := hk 0 hz
  rw [Nat.zero_mul, Nat.add_zero] at hva
  have hkk := hkd 0 hz
  subst hA
  have HVA := Lib.hid hva
  have HND := Lib.hid hnd
  obtain ⟨d0, d1, d2, d3, d4, d5⟩ := hva
  rw [hkk] at d0
  rw [hnd] at d5
  have hzd : decide ((0 : Int) < (n0 : Int)) = true := decide_eq_true (by omega)
  have hzd2 : decide (0 < n0) = true := decide_eq_true (by omega)
  have hzi : (0 : Int) < (n0 : Int) := by omega
  have HKK := Lib.hid hkk
  clear hcall hw1 hp1 hb1 hbw1 hz1 hkr hkd hct ih hk1 hk0 hb hk hkk htk hnd
  generalize hT0 : K 0 = T0 at *
  have HT0 := Lib.hid hT0
  clear hT0
  go_enter Tryd.func89, Tryd.ntmps89
  go_upto_region 1 with (fail)
  rw [← HW1.out]
  go_upto_region 6 with (first
    | ((have HZ9 := HN3)
       go_at_call 65
       go_must (
         (refine (pick_calls w3 gf N st3 sh HB3.out hN0 (by omega)).mono ?_)
         rintro e w4 ⟨q, st4, rfl, hq, hb4, hg4⟩
         have hqi : q < L.length := by rw [← HN3.out]; exact hq
         have hpq : L[q]? = some L[q] := List.getElem?_eq_getElem hqi
         obtain ⟨u9, hu⟩ : ∃ u9, S[q]? = some u9 := ⟨S[q]'(by rw [HS3.out]; exact hqi), List.getElem?_eq_getElem _⟩
         obtain ⟨Ad, cd, hue, hod⟩ := HD3.out q _ u9 hpq hu
         obtain ⟨r1, r2⟩ := rowP_get L S q _ u9 hpq hu
         subst hue
         have hmem : L[q] ∈ L := List.getElem_mem hqi
         obtain ⟨pc, hpc⟩ : ∃ pc, L[q] = pc := ⟨_, rfl⟩
         rw [hpc] at r1 r2 hod hmem
         obtain ⟨code, hcode⟩ : ∃ code, pc.1 = code := ⟨_, rfl⟩
         obtain ⟨d, hd⟩ : ∃ d, pc.2 = d := ⟨_, rfl⟩
         obtain ⟨D, hD⟩ : ∃ D, d.length = D := ⟨_, rfl⟩
         have hpp := HEL.out.2.2 pc hmem
         rw [hcode, hd] at hpp
         rw [hcode] at r1
         rw [hd, hD] at r2
         rw [hd] at hod
         have hrow4 := HROW.out.kept hg4 (.inr (own_neH HROW.out HB3.out (by decide)))
         have hrd := Reads.of_own hrow4
         obtain ⟨ad, had, hlt4, hcell⟩ := hrd.2 hN0
         cases had
         have y0 := hcell _ _ r1
         have y1 := hcell _ _ r2
         rw [add_lit, Nat.zero_add] at y0 y1
         have hp4 := HP3.out.grown hg4 (fun e => HP3.out.ne_ HB3.out (by decide) (by injection e))
         have x34 := hp4.cell 3
         simp only [List.getElem?_cons_zero, List.getElem?_cons_succ] at x34
         have hz4 := hg4.size
         have HPP := Lib.hid hpp
         have HDL := Lib.hid hD
         have HOD := Lib.hid (hod.keptg HB3.out (by decide) hg4)
         have HP4 := Lib.hid hp4
         have HB4 := Lib.hid hb4
         have HG4 := Lib.hid (grownV_trans HG3.out hg4)
         have hqc : (q : Int) < (N : Int) := by omega
         have hqc0 : (0 : Int) ≤ (q : Int) := by omega
         clear hqi hpq hu hod r1 r2 hmem hpc hcode hd hD hpp hrow4 hrd hcell hp4 hb4 hg4))
    | ((have HZ8 := HC)
       go_at_call 99
       go_must (
         (refine HC.out.mono ?_)
         rintro e w3 ⟨v9, L, st3, rfl, hel, hpw, hb3, hg3⟩
         obtain ⟨A3, c3, S, rfl, hS, hrow, hdat⟩ := hpw
         obtain ⟨N, hN⟩ : ∃ N, N = L.length := ⟨_, rfl⟩
         rw [← hN] at hrow ⊢
         have hN0 : 0 < N := by
           rw [hN]
           exact List.length_pos_iff.2 (hel.2.1 rfl)
         have hN3 : N ≤ 2 := by rw [hN]; exact hel.1
         obtain ⟨g3, hA3⟩ : ∃ g3, A3 = some ⟨g3, 0, none⟩ := by
           rcases hrow.2 with ⟨hv, h0⟩ | ⟨g, cap, cur, hv, _⟩
           · omega
           · injection hv with hv
             exact ⟨g, hv⟩
         subst hA3
         have hz3 := hg3.size
         have HEL := Lib.hid hel
         have HROW := Lib.hid hrow
         have HD3 := Lib.hid hdat
         have HS3 := Lib.hid hS
         have HN3 := Lib.hid hN
         have HB3 := Lib.hid hb3
         have HP3 := Lib.hid (HP1.out.grown hg3 (fun e => HP1.out.ne_ HB1.out (by decide) (by injection e)))
         have HG3 := Lib.hid (grownV_trans (grown_of_below HBW1.out _) hg3)
         clear hel hrow hdat hS hN hb3 hg3)))
  have hpp := HPP.out
  have hcr : 0 ≤ code ∧ code ≤ 255 := by
    rcases hpp.2.1 with h | h
    · rw [h]; have := sho_in kind; omega
    · rw [h]; exact look_in codL 255 (by omega) (by decide) kind
  have hu8 : IntKind.u8.wrap code = code := by rw [IntKind.wrap_u8]; omega
  have hDs : D ≤ 70000000 := by have := hpp.2.2.2.1; rw [HDL.out] at this; have := HCT.out; omega
  obtain ⟨w5, hw5⟩ : ∃ w5, w5 = w4.alloc (.cells #[.int .i64 code, .slice Ad D cd] 118) := ⟨_, rfl⟩
  rw [← hw5]
  obtain ⟨w6, hw6⟩ : ∃ w6, w6 = w5.alloc (.cells #[.int .u8 code] 5) := ⟨_, rfl⟩
  have hb45 : Below w4.heap.size w4 w5 := by rw [hw5]; exact (Below.refl _ _).alloc (Nat.le_refl _) _
  have hb56 : Below w5.heap.size w5 w6 := by rw [hw6]; exact (Below.refl _ _).alloc (Nat.le_refl _) _
  have hz45 : w5.heap.size = w4.heap.size + 1 := by rw [hw5]; simp
  have hp5 : Blk w5 w4.heap.size 118 [.int .i64 code, .slice Ad D cd] := by rw [hw5]; exact Blk.new w4 _ [_, _]
  have hbl6 : Blk w6 w5.heap.size 5 [.int .u8 code] := by rw [hw6]; exact Blk.new w5 _ [_]
  have b46 : Below w4.heap.size w4 w6 := hb45.trans (hb56.mono (by omega))
  have hod6 := HOD.out.below b46
  have hrd6 := hod6.reads
  rw [HDL.out] at hrd6
  have hown6 := blk_own (base := w5.heap.size) (n := 1) hbl6 (Nat.le_refl _) (by simp) (by simp [maxLen])
  have p0 := hp5.cell 0
  have p1 := hp5.cell 1
  simp only [List.getElem?_cons_zero, List.getElem?_cons_succ] at p0 p1
  have hlt45 : w4.heap.size < w5.heap.size := by omega
  have HB46 := Lib.hid b46
  have HRD6 := Lib.hid hrd6
  have HOWN6 := Lib.hid hown6
  have HW6 := Lib.hid hw6
  have HBL6 := Lib.hid hbl6
  have HZ45 := Lib.hid hz45
  have HZ56 : Hid (w6.heap.size = w5.heap.size + 1) := Lib.hid (by rw [hw6]; simp)
  clear hpp hw5 hw6 hb45 hb56 hz45 hp5 hbl6 b46 hod6 hrd6 hown6 y0 y1 x34 hz4
  have hz56 : w5.heap.size ≤ w6.heap.size := by have := HZ56.out; omega
  go_wp2_with (first
    | ((have HZ7 := HCL)
       go_at_call 88
       go_must (
         (refine HCL.out.mono ?_)
         rintro e w8 ⟨v8, rfl, hpw8, hb8⟩
         have HPW8 := Lib.hid hpw8
         have HB8 := Lib.hid hb8
         clear hpw8 hb8))
    | ((have HZ6 := HRD6)
       at_builtin
       go_must (
         (rw [← HW6.out])
         refine wpList_append_any _ rfl (.tmp 35) (.tmp 37) 26 rfl w5.heap.size 5 i0 _ 1 1 Tryd.underlying26 hi0 hiz0 hiz1 hiz2 rfl (by omega) _ 1 [.int .u8 code] rfl HOWN6.out w6.heap.size Ad D cd (bs d) rfl HRD6.out (bs_one _) (by simp only [maxLen]; omega) (by omega) hz56 ?_
         intro v1 w7 hown7 hg7 hat7
         obtain ⟨A7, c7, rfl⟩ := own_formP hown7
         obtain ⟨M, hM⟩ : ∃ M, 1 + D = M := ⟨_, rfl⟩
         rw [hM] at hown7 ⊢
         have hdl : (code :: d).length = M := by rw [List.length_cons, HDL.out]; omega
         have hro : ∀ jb, (Value.slice (some (⟨w5.heap.size, 0, none⟩ : Addr)) 1 1).ownBlock = some jb → w5.heap.size ≤ jb := fun jb hjb => by
           have := Option.some.inj (show some w5.heap.size = some jb from hjb)
           omega
         have hb67 : Below w5.heap.size w6 w7 := belowV hg7 hro hz56
         have hb47 : Below w4.heap.size w4 w7 := HB46.out.trans (hb67.mono (by omega))
         have hrd7 : Reads w7 w7.heap.size 1 A7 (code :: d).length (bs (code :: d)) := by rw [hdl]; exact Reads.of_own hown7
         have hcl := lengthed_cnt w7 224 240 n0 hn (code :: d) A7 c7 hrd7 (by rw [hdl]; omega)
         rw [hdl] at hcl
         have hp7 := HP4.out.below hb47 HP4.out.lt
         have x73 := hp7.cell 3
         simp only [List.getElem?_cons_zero, List.getElem?_cons_succ] at x73
         have HCL := Lib.hid hcl
         have HB7 := Lib.hid (HB4.out.below hb47 HB4.out.lt)
         have HG7 : Hid (W.grownBy w7 (some gf)) := grownV_trans HG4.out (grown_of_below hb47 _)
         have HZW7 : Hid (W.heap.size ≤ w7.heap.size) := HG7.out.size
         obtain ⟨e0, e1, e2, e3, e4, e5⟩ := HVA.out.keep (W' := w7) (fun q => ((belowV HG7.out (fun j hj => by injection hj with hj; omega) hB).cell (p := ⟨g, q, none⟩) hgB).trans ((HBW1.out.mono hB).cell (p := ⟨g, q, none⟩) hgB).symm)
         rw [HND.out] at e5
         clear hown7 hg7 hat7 hM hro hb67 hb47 hrd7 hcl hp7)))
  go_ret
  have hpp := HPP.out
  refine ⟨v8, code :: d, st4, rfl, ?_, by rw [List.length_cons]; have := hpp.2.2.2.1; omega, .inr ⟨fun h => by have := HND.out; rw [← HT0.out] at this; omega, code, d, rfl, hpp.1, hpp.2.1, hpp.2.2.2.2⟩, HPW8.out.lower HZW7.out, HB7.out.below HB8.out HB7.out.lt, grownV_trans HG7.out (grown_of_below HB8.out _)⟩
  intro x hx
  rcases List.mem_cons.1 hx with rfl | hx
  · exact hcr
  · exact hpp.2.2.1 x hx
end Go.Proofs.YtjjhckbidcdkcaaDoor
