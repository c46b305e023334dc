/- setof.skipWS, jsonParseSigned, jsonParseUnsigned, jsonArrayIter with the closures of UnmarshalJSON. PRINTED by wip/genjm.py. -/
import Derived.Test.YtikpmeedjdddoaaDoorJl
import Derived.Test.YtikpmeedjdddoaaDoorJc
import Derived.Test.YtikpmeedjdddoaaDoorJLc
import Derived.Test.YtikpmeedjdddoaaDoorJLd
import Derived.Lib.AtoiErrMem
namespace Go.Proofs.YtikpmeedjdddoaaDoor
open Go.RowKit Go.Maps Go.Sort Go.ChangeShapes Go.WideShapes Go.Shelf
set_option linter.unusedVariables false

theorem Reads.mid {w : World} {B L : Nat} {ad : Addr} {P ds R : List Int} (h : Reads w B 1 (some ad) L (bs (P ++ (ds ++ R)))) : Reads w B 1 (some (ad.add P.length)) ds.length (bs ds) := by
  refine ⟨by simp [bs_length], fun hn => ?_⟩
  have hL := h.1
  rw [bs_length] at hL
  have hL0 : 0 < L := by simp only [List.length_append] at hL; omega
  obtain ⟨ad', e, hb, hc⟩ := h.2 hL0
  cases e
  refine ⟨_, rfl, by rw [block_of_add]; exact hb, fun j u hu => ?_⟩
  rw [add_of_add]
  refine hc _ u ?_
  rw [← hu]
  have hj : j < ds.length := by
    rcases Nat.lt_or_ge j ds.length with hlt | hge
    · exact hlt
    · rw [List.getElem?_eq_none (by rw [bs_length]; exact hge)] at hu; cases hu
  simp only [bs, List.getElem?_map]
  rw [List.getElem?_append_right (by omega), Nat.add_sub_cancel_left, List.getElem?_append_left hj]

set_option maxHeartbeats 4000000 in
set_option maxRecDepth 100000 in
theorem skip_ws (w : World) (B L c : Nat) (ad : Addr) (T : List Int) (h : Reads w B 1 (some ad) L (bs T)) (hL : L ≤ 100000) (i j : Nat) (hij : i ≤ j) (hjL : j ≤ L) (hs : ∀ m, i ≤ m → m < j → T.getD m 0 = 32) (he : j < L → NoBlank (T.getD j 0)) :
    Calls Tryd.prog 50 #[.slice (some ad) L c, .int .i64 i] w fun e w' => e = .returned (.int .i64 j) ∧ w' = w := by
  have H := Lib.hid h
  have HS := Lib.hid hs
  clear h hs
  go_enter Tryd.func50, Tryd.ntmps50
  go_wp2
  go_loopw [1] (fun v wr => ∃ m : Nat, i ≤ m ∧ m ≤ j ∧ v = .int .i64 m ∧ wr = w) (fun v _ => L - (intOf v).toNat)
  case atStart => exact ⟨i, Nat.le_refl _, hij, rfl, rfl⟩
  case round =>
    obtain ⟨m, him, hmj, rfl, rfl⟩ := hrel
    by_cases hlt : m < j
    · have d0 : decide ((m : Int) < (L : Int)) = true := decide_eq_true (by omega)
      obtain ⟨ad', hA, _, hcell⟩ := H.out.byte (k := m) (by omega)
      cases hA
      rw [HS.out m him hlt] at hcell
      clear he
      go_wp2
      go_roundw
      case rel => exact ⟨m + 1, by omega, by omega, by go_num, by first | trivial | rfl⟩
      case measure => simp [intOf]; omega
    · obtain rfl : m = j := by omega
      by_cases hlt2 : m < L
      · have d0 : decide ((m : Int) < (L : Int)) = true := decide_eq_true (by omega)
        obtain ⟨ad', hA, _, hcell⟩ := H.out.byte (k := m) hlt2
        cases hA
        have hnb := he hlt2
        obtain ⟨b, hb⟩ : ∃ b, b = T.getD m 0 := ⟨_, rfl⟩
        rw [← hb] at hcell hnb
        obtain ⟨n1, n2, n3, n4⟩ := hnb
        have b1 : (b == 32) = false := by simpa using n1
        have b2 : (b == 10) = false := by simpa using n2
        have b3 : (b == 13) = false := by simpa using n3
        have b4 : (b == 9) = false := by simpa using n4
        clear n1 n2 n3 n4 hb he
        go_wp2
        go_ret
        exact ⟨rfl, rfl⟩
      · have d0 : decide ((m : Int) < (L : Int)) = false := decide_eq_false (by omega)
        clear he
        go_wp2
        go_ret
        exact ⟨rfl, rfl⟩
theorem parseW (w : World) (B n c : Nat) (ad : Addr) (x : Int) (h0 : 0 ≤ x) (h1 : x ≤ 4294967295) (h : Reads w B 1 (some ad) n (bs (itoaL x))) :
    Calls Tryd.prog 38 #[.slice (some ad) n c, .int .i64 32] w fun e w' => e = .returned (.tuple #[.int .u32 x, .nilIface]) ∧ Below w.heap.size w w' := by
  have hcv : (convert 54 9 (.slice (some ad) n c)).run Tryd.prog w = .ok (.string (strOfNums (itoaL x))) w := conv_reads h _ _ _ Tryd.underlying54 Tryd.underlying5 Tryd.underlying9
  obtain ⟨u, rfl⟩ : ∃ u : Nat, x = u := ⟨x.toNat, by omega⟩
  have hp := Any.strconv_ParseUint_10_at32_ok Tryd.pu (strOfNums (itoaL u)) (by rw [strNums_size]; have := itoaL_len u (by omega) (by omega); omega) u (by rw [strNums_itoa, Lib.itoa_nonneg]; exact parseU32 u (by omega)) w
  have hp2 : Calls Tryd.prog 52 #[.string (strOfNums (itoaL u)), .int .i64 10, .int .i64 32] w fun e w' => e = .returned (.tuple #[.int .u64 u, .nilIface]) ∧ Below w.heap.size w w' := by
    refine Calls.mono (show Calls Tryd.prog 52 #[.string (strOfNums (itoaL u)), .int .i64 10, .int .i64 32] w _ from hp) ?_
    rintro e w' ⟨he, hw⟩
    refine ⟨he, ?_⟩
    rcases hw with rfl | rfl
    · exact Below.refl _ _
    · exact Lib.bytesWorld_below _ _ _
  have hw32 : IntKind.u32.wrap (u : Int) = u := by rw [IntKind.wrap_u32]; omega
  obtain ⟨s, hs⟩ : ∃ s, s = strOfNums (itoaL u) := ⟨_, rfl⟩
  rw [← hs] at hcv hp2
  have HP := Lib.hid hp2
  clear hp hp2 hs h h0 h1
  go_enter Tryd.func38, Tryd.ntmps38
  go_wp2_with (
    (go_at_call 52)
    go_must (
      (refine HP.out.mono ?_)
      rintro e w1 ⟨rfl, hb1⟩
      have HB1 := Lib.hid hb1
      clear hb1))
  ((try simp only [Exit.inBlock, Exit.then]); refine bodyPost_ret (results_tmp2 rfl _ _ _) rfl ?_)
  exact ⟨rfl, HB1.out⟩
theorem parseY (w : World) (B n c : Nat) (ad : Addr) (x : Int) (h0 : -128 ≤ x) (h1 : x ≤ 127) (h : Reads w B 1 (some ad) n (bs (itoaL x))) :
    Calls Tryd.prog 42 #[.slice (some ad) n c, .int .i64 8] w fun e w' => e = .returned (.tuple #[.int .i8 x, .nilIface]) ∧ Below w.heap.size w w' := by
  have hcv : (convert 54 9 (.slice (some ad) n c)).run Tryd.prog w = .ok (.string (strOfNums (itoaL x))) w := conv_reads h _ _ _ Tryd.underlying54 Tryd.underlying5 Tryd.underlying9
  have hp := Any.strconv_ParseInt_10_at8_ok Tryd.pi (strOfNums (itoaL x)) (by rw [strNums_size]; have := itoaL_len x (by omega) (by omega); omega) x (by rw [strNums_itoa]; exact parseI8 x h0 h1) w
  have hp2 : Calls Tryd.prog 55 #[.string (strOfNums (itoaL x)), .int .i64 10, .int .i64 8] w fun e w' => e = .returned (.tuple #[.int .i64 x, .nilIface]) ∧ Below w.heap.size w w' := by
    refine Calls.mono (show Calls Tryd.prog 55 #[.string (strOfNums (itoaL x)), .int .i64 10, .int .i64 8] w _ from hp) ?_
    rintro e w' ⟨he, hw⟩
    refine ⟨he, ?_⟩
    rcases hw with rfl | ⟨t, rfl⟩
    · exact Below.refl _ _
    · exact Lib.bytesWorld_below _ _ _
  have hw8 : IntKind.i8.wrap x = x := by unfold IntKind.wrap; simp [IntKind.bits, IntKind.signed]; omega
  obtain ⟨s, hs⟩ : ∃ s, s = strOfNums (itoaL x) := ⟨_, rfl⟩
  rw [← hs] at hcv hp2
  have HP := Lib.hid hp2
  clear hp hp2 hs h h0 h1
  go_enter Tryd.func42, Tryd.ntmps42
  go_wp2_with (
    (go_at_call 55)
    go_must (
      (refine HP.out.mono ?_)
      rintro e w1 ⟨rfl, hb1⟩
      have HB1 := Lib.hid hb1
      clear hb1))
  ((try simp only [Exit.inBlock, Exit.then]); refine bodyPost_ret (results_tmp2 rfl _ _ _) rfl ?_)
  exact ⟨rfl, HB1.out⟩

set_option maxHeartbeats 2000000 in
set_option maxRecDepth 100000 in
theorem cloY (w : World) (B n c gd b k : Nat) (ad : Addr) (x : Int) (l : List Int) (D : DataW Unit) (h0 : -128 ≤ x) (h1 : x ≤ 127) (h : Reads w B 1 (some ad) n (bs (itoaL x))) (hd : Blk w gd 64 [.map (some b)]) (hown : w.ownsMap Tryd.prog 36 unitElem b k D) (hD : KeysI .i8 D l) (hk : k ≤ 1000) :
    Calls Tryd.prog 41 #[.slice (some ad) n c, .pointer (some ⟨gd, 0, none⟩)] w fun e w' => e = .returned .nilIface ∧ ∃ D' : DataW Unit, w'.ownsMap Tryd.prog 36 unitElem b (k + 1) D' ∧ KeysI .i8 D' (l ++ [x]) ∧ w.grownBy w' (some b) := by
  have hp := parseY w B n c ad x h0 h1 h
  have r0 := hd.cell 0
  simp only [List.getElem?_cons_zero] at r0
  have hkey : keyOf Tryd.prog 36 (.int .i8 x) = some (.int .i8 x) := keyOf_int_mk Tryd.underlying36 (by simp [Lit.wf, IntKind.min, IntKind.max, IntKind.bits, IntKind.signed]; omega)
  have hgd := hd.lt
  have hbw := hown.lt
  have HP := Lib.hid hp
  have HOWN := Lib.hid hown
  have HD := Lib.hid hD
  have HKEY := Lib.hid hkey
  clear hp hd hown hD hkey h h0 h1
  go_enter Tryd.func41, Tryd.ntmps41
  go_wp2_with (first
    | (go_at_call 42
       go_must (
         (refine HP.out.mono ?_)
         rintro e w1 ⟨rfl, hb1⟩
         have r1 : w1.cell? ⟨gd, 0, none⟩ = some (.map (some b)) := (hb1.cell (p := ⟨gd, 0, none⟩) hgd).trans r0
         have HO1 : Hid (w1.ownsMap Tryd.prog 36 unitElem b k D) := ownsMap_below HOWN.out hb1 hbw
         have HB1 := Lib.hid hb1
         clear hb1))
    | (at_mapUpdate
       go_must (
         refine wpList_mapUpdate_own _ rfl _ _ _ 64 rfl 36 53 lawY Tryd.underlying64 (unitElem (H := Unit)) b k D rfl HO1.out (by unfold maxLen; omega) _ _ _ rfl rfl HKEY.out _ [] unitElem_mk ?_
         intro w2 hown2 hgrow2
         have HOWN2 := Lib.hid hown2
         have HG2 := Lib.hid hgrow2
         clear hown2 hgrow2)))
  go_ret
  exact ⟨rfl, _, HOWN2.out, HD.out.put HOWN.out.isMap (HOWN.out.tidy lawY) x _, grownJ_trans ⟨HB1.out.os, HB1.out.tape, HB1.out.output, HB1.out.size, fun j hj _ => HB1.out.block j hj⟩ HG2.out⟩

set_option maxHeartbeats 8000000 in
set_option maxRecDepth 100000 in
theorem iterY (w : World) (B L c gd b : Nat) (ad : Addr) (z : Bool) (l T : List Int) (hT : T = 91 :: (jg (itB z) l ++ [93])) (hL : L = T.length) (hL2 : L ≤ 100000) (hLc : L ≤ c) (hcm : c ≤ maxLen) (N : Nat) (hN : N = l.length) (hN1 : N ≤ 1000) (hwf : ∀ x ∈ l, -128 ≤ x ∧ x ≤ 127) (h : Reads w B 1 (some ad) L (bs T)) (hB : B ≤ w.heap.size) (hBb : B ≤ b) (hgb : gd ≠ b)
    (hd : Blk w gd 64 [.map (some b)]) (hown : w.ownsMap Tryd.prog 36 (unitElem (H := Unit)) b 0 (.map [] : DataW Unit)) :
    Calls Tryd.prog 36 #[.slice (some ad) L c, .func (.func 41) #[] #[.pointer (some ⟨gd, 0, none⟩)]] w fun e w' => e = .returned .nilIface ∧ ∃ D : DataW Unit, w'.ownsMap Tryd.prog 36 unitElem b N D ∧ KeysI .i8 D l ∧ w.grownBy w' (some b) := by
  have hcm2 : c ≤ 9223372036854775807 := by unfold maxLen at hcm; omega
  have hT0 : T.getD 0 0 = 91 := by rw [hT]; rfl
  have hT2 : 1 < L := by rw [hL, hT]; simp
  obtain ⟨ad0, hA0, _, hc0⟩ := h.byte (k := 0) (by omega)
  cases hA0
  rw [hT0, Addr.add_zero'] at hc0
  have hsk0 : Calls Tryd.prog 50 #[.slice (some ad) L c, .int .i64 0] w fun e w' => e = .returned (.int .i64 0) ∧ w' = w := skip_ws w B L c ad T h hL2 0 0 (Nat.le_refl _) (by omega) (fun m h1 h2 => absurd h2 (by omega)) (fun _ => by rw [hT0]; unfold NoBlank; omega)
  have dl0 : decide ((L : Int) ≤ 0) = false := decide_eq_false (by omega)
  have dl0n : decide (L = 0) = false := decide_eq_false (by omega)
  have HSK0 := Lib.hid hsk0
  have H := Lib.hid h
  have HD0 := Lib.hid hd
  have HO0 := Lib.hid hown
  have HWF := Lib.hid hwf
  have HT := Lib.hid hT
  have HL := Lib.hid hL
  have HN := Lib.hid hN
  by_cases hl0 : l = []
  · have hT1 : T.getD 1 0 = 93 := by rw [hT, hl0]; rfl
    obtain ⟨ad1, hA1, _, hc1⟩ := h.byte (k := 1) (by omega)
    cases hA1
    rw [hT1] at hc1
    have hsk1 : Calls Tryd.prog 50 #[.slice (some ad) L c, .int .i64 1] w fun e w' => e = .returned (.int .i64 1) ∧ w' = w := skip_ws w B L c ad T h hL2 1 1 (Nat.le_refl _) (by omega) (fun m h1 h2 => absurd h2 (by omega)) (fun _ => by rw [hT1]; unfold NoBlank; omega)
    have hc1' : w.cell? ⟨ad.block, ad.off + 1, none⟩ = some (.int .u8 93) := by simpa [Addr.add] using hc1
    have HSK1 := Lib.hid hsk1
    have d1 : decide ((1 : Int) < (L : Int)) = true := decide_eq_true (by omega)
    have d1n : decide (1 < L) = true := decide_eq_true (by omega)
    clear hT hL hN hwf h hd hown hsk0 hsk1 hT0 hT1
    go_enter Tryd.func36, Tryd.ntmps36
    go_wp2_with (
      (go_at_call 50)
      (first
        | (with_reducible refine HSK0.out.mono ?_)
        | (with_reducible refine HSK1.out.mono ?_))
      (rintro e w1 ⟨rfl, hw1⟩)
      (have hw2 := hw1.symm)
      (subst hw2))
    go_ret
    refine ⟨rfl, (.map [] : DataW Unit), ?_, ?_, grownJ_refl _ _⟩
    · have e : N = 0 := by rw [HN.out, hl0]; rfl
      rw [e]; exact HO0.out
    · rw [hl0]; exact KeysI.nil _
  · have hN0 : 0 < N := by
      rcases Nat.eq_zero_or_pos N with h0 | h0
      · exact absurd (List.eq_nil_of_length_eq_zero (by omega)) hl0
      · exact h0
    obtain ⟨sp, hsp⟩ : ∃ sp, sp = (bl z).length := ⟨_, rfl⟩
    have hsp1 : sp ≤ 1 := by rw [hsp]; unfold bl; split <;> simp
    have hcut : ∀ k, k < N → ∃ (c0 : Int) (post : List Int), T = aheadG (itB z) l k ++ (bl z ++ (itoaL (l.getD k 0) ++ c0 :: post)) ∧ (k + 1 = N → c0 = 93 ∧ post = []) ∧ (k + 1 < N → c0 = 44 ∧ (aheadG (itB z) l (k + 1)).length = (aheadG (itB z) l k).length + sp + (itoaL (l.getD k 0)).length + 1) := fun k hk => by
      obtain ⟨post, h1, h2, h3⟩ := jg_cut (itB z) l k (by omega)
      refine ⟨if k + 1 = l.length then 93 else 44, post, ?_, fun e => ⟨if_pos (by omega), h2 (by omega)⟩, fun e => ⟨if_neg (by omega), ?_⟩⟩
      · rw [hT, h1]
        unfold itB
        rw [List.append_assoc]
      · rw [h3 (by omega)]
        unfold itB
        simp only [List.length_append, List.length_cons, List.length_nil]
        omega
    -- the blank ahead of a number, the number's bytes, what stands behind it
    have hpos : ∀ k (hk : k < N), (∀ m, (aheadG (itB z) l k).length ≤ m → m < (aheadG (itB z) l k).length + sp → T.getD m 0 = 32) ∧ (∀ m, (aheadG (itB z) l k).length + sp ≤ m → m < (aheadG (itB z) l k).length + sp + (itoaL (l.getD k 0)).length → T.getD m 0 = 45 ∨ (48 ≤ T.getD m 0 ∧ T.getD m 0 ≤ 57)) ∧ (aheadG (itB z) l k).length + sp + (itoaL (l.getD k 0)).length < L ∧ (k + 1 = N → T.getD ((aheadG (itB z) l k).length + sp + (itoaL (l.getD k 0)).length) 0 = 93) ∧ (k + 1 < N → T.getD ((aheadG (itB z) l k).length + sp + (itoaL (l.getD k 0)).length) 0 = 44) := fun k hk => by
      obtain ⟨c0, post, e1, e2, e3⟩ := hcut k hk
      have e4 : T = (aheadG (itB z) l k ++ bl z) ++ (itoaL (l.getD k 0) ++ c0 :: post) := by rw [e1, List.append_assoc]
      have hpl : (aheadG (itB z) l k ++ bl z).length = (aheadG (itB z) l k).length + sp := by rw [List.length_append, hsp]
      have hch := (itoaL_chars (l.getD k 0)).2
      have hend := getD_endL (aheadG (itB z) l k ++ bl z) (itoaL (l.getD k 0)) post c0
      rw [← e4, hpl] at hend
      refine ⟨fun m h1 h2 => ?_, fun m h1 h2 => ?_, ?_, fun e => by rw [hend, (e2 e).1], fun e => by rw [hend, (e3 e).1]⟩
      · obtain ⟨i, rfl⟩ : ∃ i, m = (aheadG (itB z) l k).length + i := ⟨m - (aheadG (itB z) l k).length, by omega⟩
        have := getD_midL (aheadG (itB z) l k) (bl z) (itoaL (l.getD k 0) ++ c0 :: post) i (by omega)
        rw [← e1] at this
        rw [this]
        unfold bl at hsp ⊢
        by_cases hz : z = true
        · rw [if_pos hz] at hsp ⊢
          obtain rfl : i = 0 := by simp at hsp; omega
          rfl
        · rw [if_neg hz] at hsp
          simp at hsp
          omega
      · obtain ⟨i, rfl⟩ : ∃ i, m = (aheadG (itB z) l k).length + sp + i := ⟨m - ((aheadG (itB z) l k).length + sp), by omega⟩
        have hi : i < (itoaL (l.getD k 0)).length := by omega
        have := getD_midL (aheadG (itB z) l k ++ bl z) (itoaL (l.getD k 0)) (c0 :: post) i hi
        rw [← e4, hpl] at this
        rw [this]
        exact hch _ (getD_memS _ _ hi)
      · have := congrArg List.length e4
        rw [List.length_append, hpl, List.length_append, List.length_cons] at this
        omega
    have hread : ∀ k (hk : k < N), Reads w B 1 (some (ad.add ((aheadG (itB z) l k).length + sp))) (itoaL (l.getD k 0)).length (bs (itoaL (l.getD k 0))) := fun k hk => by
      obtain ⟨c0, post, e1, e2, e3⟩ := hcut k hk
      have e4 : T = (aheadG (itB z) l k ++ bl z) ++ (itoaL (l.getD k 0) ++ c0 :: post) := by rw [e1, List.append_assoc]
      have hpl : (aheadG (itB z) l k ++ bl z).length = (aheadG (itB z) l k).length + sp := by rw [List.length_append, hsp]
      rw [e4] at h
      have := Reads.mid h
      rwa [hpl] at this
    have hnx : ∀ k, k + 1 < N → (aheadG (itB z) l (k + 1)).length = (aheadG (itB z) l k).length + sp + (itoaL (l.getD k 0)).length + 1 := fun k hk => by
      obtain ⟨c0, post, e1, e2, e3⟩ := hcut k (by omega)
      exact (e3 hk).2
    have hskp := fun (W : World) (hW : Reads W B 1 (some ad) L (bs T)) (k : Nat) (hk : k < N) (p : Nat) (h1 : (aheadG (itB z) l k).length ≤ p) (h2 : p ≤ (aheadG (itB z) l k).length + sp) =>
      skip_ws W B L c ad T hW hL2 p ((aheadG (itB z) l k).length + sp) h2 (by have := (hpos k hk).2.2.1; omega) (fun m h3 h4 => (hpos k hk).1 m (by omega) h4) (fun h3 => by
        have := (hpos k hk).2.1 ((aheadG (itB z) l k).length + sp) (Nat.le_refl _) (by have := (itoaL_chars (l.getD k 0)).1; omega)
        unfold NoBlank
        omega)
    have hske := fun (W : World) (hW : Reads W B 1 (some ad) L (bs T)) (k : Nat) (hk : k < N) (e : Nat) (he : e = (aheadG (itB z) l k).length + sp + (itoaL (l.getD k 0)).length) =>
      skip_ws W B L c ad T hW hL2 e e (Nat.le_refl _) (by have := (hpos k hk).2.2.1; omega) (fun m h3 h4 => absurd h4 (by omega)) (fun h3 => by
        have h4 := (hpos k hk).2.2.2
        rw [← he] at h4
        unfold NoBlank
        by_cases hkn : k + 1 = N
        · have := h4.1 hkn; omega
        · have := h4.2 (by omega); omega)
    have hsk1 : Calls Tryd.prog 50 #[.slice (some ad) L c, .int .i64 1] w fun e w' => e = .returned (.int .i64 ((1 + sp : Nat) : Int)) ∧ w' = w := hskp w h 0 hN0 1 (Nat.le_refl _) (by show 1 ≤ 1 + sp; omega)
    have hp0 := hpos 0 hN0
    have ha0 : (aheadG (itB z) l 0).length = 1 := rfl
    rw [ha0] at hp0
    have hb1 := hp0.2.1 (1 + sp) (Nat.le_refl _) (by have := (itoaL_chars (l.getD 0 0)).1; omega)
    have hl1 : 1 + sp < L := by have := hp0.2.2.1; omega
    obtain ⟨ad1, hA1, _, hc1⟩ := h.byte (k := 1 + sp) hl1
    cases hA1
    obtain ⟨b1, hb1e⟩ : ∃ b1, b1 = T.getD (1 + sp) 0 := ⟨_, rfl⟩
    rw [← hb1e] at hc1 hb1
    obtain ⟨q1, hq1e⟩ : ∃ q1, q1 = 1 + sp := ⟨_, rfl⟩
    rw [← hq1e] at hsk1 hc1 hl1
    have x1 : (b1 == 93) = false := by rw [beq_eq_false_iff_ne]; omega
    have d1 : decide ((q1 : Int) < (L : Int)) = true := decide_eq_true (by omega)
    have d1n : decide (q1 < L) = true := decide_eq_true (by omega)
    have hq10 : (0 : Int) ≤ (q1 : Int) := by omega
    have hq11 : (q1 : Int) < (L : Int) := by omega
    have HSK1 := Lib.hid hsk1
    have HPOS := Lib.hid hpos
    have HREAD := Lib.hid hread
    have HNX := Lib.hid hnx
    have HSKP := Lib.hid hskp
    have HSKE := Lib.hid hske
    have HQ1 := Lib.hid hq1e
    clear hown hd hT hL hN hwf h hsk0 hT0 hsk1 hpos hread hnx hskp hske hcut hp0 ha0 hb1 hb1e hq1e hl0
    go_enter Tryd.func36, Tryd.ntmps36
    go_wp2_with (
      (go_at_call 50)
      (first
        | (with_reducible refine HSK0.out.mono ?_)
        | (with_reducible refine HSK1.out.mono ?_))
      (rintro e w1 ⟨rfl, hw1⟩)
      (have hw2 := hw1.symm)
      (subst hw2))
    go_loopw [5] (fun v wr => ∃ k p : Nat, k < N ∧ v = .int .i64 p ∧ (aheadG (itB z) l k).length ≤ p ∧ p ≤ (aheadG (itB z) l k).length + sp ∧ Hid (∃ D : DataW Unit, wr.ownsMap Tryd.prog 36 unitElem b k D ∧ KeysI .i8 D (l.take k)) ∧ Hid (w.grownBy wr (some b))) (fun v _ => L - (intOf v).toNat)
    case atStart => exact ⟨0, q1, hN0, rfl, by have := HQ1.out; show 1 ≤ q1; omega, by have := HQ1.out; show q1 ≤ 1 + sp; omega, ⟨_, HO0.out, by rw [List.take_zero]; exact KeysI.nil _⟩, grownJ_refl _ _⟩
    case round =>
      obtain ⟨k, p, hk, rfl, hp1, hp2, hst, hgr⟩ := hrel
      have hps := HPOS.out k hk
      have hkl : k < l.length := by have := HN.out; omega
      have hbel : ∀ q : Addr, q.block < B → wr.cell? q = w.cell? q := fun q hq => World.cell?_of_block (hgr.out.block _ (by omega) (fun e => by injection e with e; omega))
      have hWr : Reads wr B 1 (some ad) L (bs T) := H.out.keep hbel
      obtain ⟨x, hX⟩ : ∃ x, x = l.getD k 0 := ⟨_, rfl⟩
      have hx := HWF.out x (by rw [hX]; exact getD_memS l k hkl)
      have hrw : Reads wr B 1 (some (ad.add ((aheadG (itB z) l k).length + sp))) (itoaL (l.getD k 0)).length (bs (itoaL (l.getD k 0))) := (HREAD.out k hk).keep hbel
      have hnxk := HNX.out k
      obtain ⟨s0, hs0⟩ : ∃ s0, s0 = (aheadG (itB z) l k).length + sp := ⟨_, rfl⟩
      obtain ⟨e0, he0⟩ : ∃ e0, e0 = s0 + (itoaL (l.getD k 0)).length := ⟨_, rfl⟩
      have HEE : Hid (e0 = (aheadG (itB z) l k).length + sp + (itoaL (l.getD k 0)).length) := (show e0 = (aheadG (itB z) l k).length + sp + (itoaL (l.getD k 0)).length by rw [he0, hs0])
      have hsnoc := take_snocI l k hkl
      have hsk2 := HSKP.out wr hWr k hk p hp1 hp2
      have hsk3 := HSKE.out wr hWr k hk e0 (by rw [he0, hs0])
      rw [← hs0] at hps hsk2 hrw hp2 hnxk
      rw [← he0] at hps hnxk
      rw [← hX] at hrw he0
      obtain ⟨hps1, hps2, hps3, hps4, hps5⟩ := hps
      have hx0 := (itoaL_chars x).1
      have hse : s0 < e0 := by omega
      obtain ⟨D, hown, hD⟩ := hst.out
      have hdr : Blk wr gd 64 [.map (some b)] := HD0.out.grown hgr.out (fun e => hgb (by injection e))
      have hclo := fun (W : World) (c9 : Nat) (hW : Reads W B 1 (some (ad.add s0)) (itoaL x).length (bs (itoaL x))) (h2 : Blk W gd 64 [.map (some b)]) (h3 : W.ownsMap Tryd.prog 36 unitElem b k D) => cloY W B (itoaL x).length c9 gd b k (ad.add s0) x (l.take k) D hx.1 hx.2 hW h2 h3 hD (by omega)
      obtain ⟨n9, hn9⟩ : ∃ n9, n9 = (itoaL x).length := ⟨_, rfl⟩
      rw [← hn9] at hclo hrw he0
      obtain ⟨ads, hAs, _, hcs0⟩ := hWr.byte (k := s0) (by omega)
      cases hAs
      have HSN : Hid (l.take (k + 1) = l.take k ++ [x]) := (show l.take (k + 1) = l.take k ++ [x] by rw [hsnoc, hX])
      clear hsnoc
      have hbs := hps2 s0 (Nat.le_refl _) (by omega)
      obtain ⟨b0, hb0⟩ : ∃ b0, b0 = T.getD s0 0 := ⟨_, rfl⟩
      rw [← hb0] at hcs0 hbs
      have y1 : (b0 == 34) = false := by rw [beq_eq_false_iff_ne]; omega
      have e1 : decide ((L : Int) ≤ (s0 : Int)) = false := decide_eq_false (by omega)
      have e1n : decide (L ≤ s0) = false := decide_eq_false (by omega)
      have g1 : (0 : Int) ≤ (s0 : Int) := by omega
      have g2 : (s0 : Int) < (L : Int) := by omega
      have hsb : s0 ≤ 100000 := by omega
      have heb : e0 ≤ 100000 := by omega
      have HWR := Lib.hid hWr
      have HSK2 := Lib.hid hsk2
      have HSK3 := Lib.hid hsk3
      have HPS2 := Lib.hid hps2
      have HPS4 := Lib.hid hps4
      have HPS5 := Lib.hid hps5
      have HOWN := Lib.hid hown
      have HDR := Lib.hid hdr
      have HCLO := Lib.hid hclo
      have HRW := Lib.hid hrw
      have HX := Lib.hid hX
      have HE0 := Lib.hid he0
      have HNXK := Lib.hid hnxk
      have HGR := Lib.hid hgr.out
      clear hWr hsk2 hsk3 hps1 hps2 hps4 hps5 hown hdr hclo hrw hX he0 hnxk hst hbel hx hb0 hbs hs0 hn9 hD
      go_wp2_with (
        (go_at_call 50)
        go_must (
          (refine HSK2.out.mono ?_)
          rintro e w1 ⟨rfl, rfl⟩))
      go_loopw [5] (fun v wi => ∃ m : Nat, s0 ≤ m ∧ m ≤ e0 ∧ v = .int .i64 m ∧ wi = w1) (fun v _ => L - (intOf v).toNat)
      case atStart => exact ⟨s0, Nat.le_refl _, by omega, rfl, rfl⟩
      case round =>
        obtain ⟨m, hm1, hm2, rfl, hwi⟩ := hrel
        have hwi2 := hwi.symm
        subst hwi2
        have f1 : decide ((m : Int) < (L : Int)) = true := decide_eq_true (by omega)
        have f1n : decide (m < L) = true := decide_eq_true (by omega)
        have f2 : (0 : Int) ≤ (m : Int) := by omega
        have f3 : (m : Int) < (L : Int) := by omega
        obtain ⟨adm, hAm, _, hcm⟩ := HWR.out.byte (k := m) (by omega)
        cases hAm
        by_cases hlt : m < e0
        · have hbm := HPS2.out m hm1 (by have := HE0.out; omega)
          obtain ⟨bm, hbme⟩ : ∃ bm, bm = T.getD m 0 := ⟨_, rfl⟩
          rw [← hbme] at hcm hbm
          have z1 : (bm == 44) = false := by rw [beq_eq_false_iff_ne]; omega
          have zn1 : (bm != 44) = true := by rw [bne, z1]; rfl
          have zd1 : decide (bm = 44) = false := decide_eq_false (by omega)
          have z2 : (bm == 93) = false := by rw [beq_eq_false_iff_ne]; omega
          have zn2 : (bm != 93) = true := by rw [bne, z2]; rfl
          have zd2 : decide (bm = 93) = false := decide_eq_false (by omega)
          have z3 : (bm == 32) = false := by rw [beq_eq_false_iff_ne]; omega
          have zn3 : (bm != 32) = true := by rw [bne, z3]; rfl
          have zd3 : decide (bm = 32) = false := decide_eq_false (by omega)
          have z4 : (bm == 9) = false := by rw [beq_eq_false_iff_ne]; omega
          have zn4 : (bm != 9) = true := by rw [bne, z4]; rfl
          have zd4 : decide (bm = 9) = false := decide_eq_false (by omega)
          have z5 : (bm == 10) = false := by rw [beq_eq_false_iff_ne]; omega
          have zn5 : (bm != 10) = true := by rw [bne, z5]; rfl
          have zd5 : decide (bm = 10) = false := decide_eq_false (by omega)
          have z6 : (bm == 13) = false := by rw [beq_eq_false_iff_ne]; omega
          have zn6 : (bm != 13) = true := by rw [bne, z6]; rfl
          have zd6 : decide (bm = 13) = false := decide_eq_false (by omega)
          clear hbm hbme
          go_wp2
          go_roundw
          case rel => exact ⟨m + 1, by omega, by omega, by go_num, by first | trivial | rfl⟩
          case measure => simp [intOf]; omega
        · obtain rfl : m = e0 := by omega
          have hcs : (c = s0) = False := eq_false (by omega)
          have k1 : (s0 : Int) ≤ (m : Int) := by omega
          have k2 : (m : Int) ≤ (c : Int) := by omega
          obtain rfl : n9 = m - s0 := by have := HE0.out; omega
          by_cases hkn : k + 1 = N
          · have hT9 := HPS4.out hkn
            rw [hT9] at hcm
            go_wp2_with (first
              | (go_at_call 41
                 go_must (
                   (refine (HCLO.out w1 _ HRW.out HDR.out HOWN.out).mono ?_)
                   rintro e w2 ⟨rfl, D2, hown2, hD2, hg2⟩
                   have hq2 := hg2.size
                   have hW2 : Reads w2 B 1 (some ad) L (bs T) := HWR.out.keep (fun q hq => World.cell?_of_block (hg2.block _ (by have := HGR.out.size; omega) (fun e => by injection e with e; omega)))
                   have hsk4 := HSKE.out w2 hW2 k hk m HEE.out
                   obtain ⟨ad4, hA4, _, hcm4⟩ := hW2.byte (k := m) (by omega)
                   cases hA4
                   rw [hT9] at hcm4
                   have HSK4 := Lib.hid hsk4
                   have HO2 := Lib.hid hown2
                   have HD2 := Lib.hid hD2
                   have HG2 := Lib.hid hg2
                   have HDR2 : Hid (Blk w2 gd 64 [.map (some b)]) := HDR.out.grown hg2 (fun e => hgb (by injection e))
                   clear hown2 hD2 hg2 hW2 hsk4))
              | (go_at_call 50
                 go_must (
                   (refine HSK4.out.mono ?_)
                   rintro e w3 ⟨rfl, rfl⟩)))
            go_ret
            refine ⟨rfl, D2, by rw [← hkn]; exact HO2.out, ?_, grownJ_trans HGR.out HG2.out⟩
            have hall : l.take (k + 1) = l := by rw [hkn, HN.out, List.take_length]
            rw [← hall, HSN.out]
            exact HD2.out
          · have hT9 := HPS5.out (by omega)
            rw [hT9] at hcm
            go_wp2_with (first
              | (go_at_call 41
                 go_must (
                   (refine (HCLO.out w1 _ HRW.out HDR.out HOWN.out).mono ?_)
                   rintro e w2 ⟨rfl, D2, hown2, hD2, hg2⟩
                   have hq2 := hg2.size
                   have hW2 : Reads w2 B 1 (some ad) L (bs T) := HWR.out.keep (fun q hq => World.cell?_of_block (hg2.block _ (by have := HGR.out.size; omega) (fun e => by injection e with e; omega)))
                   have hsk4 := HSKE.out w2 hW2 k hk m HEE.out
                   obtain ⟨ad4, hA4, _, hcm4⟩ := hW2.byte (k := m) (by omega)
                   cases hA4
                   rw [hT9] at hcm4
                   have HSK4 := Lib.hid hsk4
                   have HO2 := Lib.hid hown2
                   have HD2 := Lib.hid hD2
                   have HG2 := Lib.hid hg2
                   have HDR2 : Hid (Blk w2 gd 64 [.map (some b)]) := HDR.out.grown hg2 (fun e => hgb (by injection e))
                   clear hown2 hD2 hg2 hW2 hsk4))
              | (go_at_call 50
                 go_must (
                   (refine HSK4.out.mono ?_)
                   rintro e w3 ⟨rfl, rfl⟩)))
            go_roundw
            case rel =>
              have hx1 := HNXK.out (by omega)
              exact ⟨k + 1, m + 1, by omega, by go_num, by omega, by omega, ⟨_, HO2.out, by rw [HSN.out]; exact HD2.out⟩, grownJ_trans HGR.out HG2.out⟩
            case measure => simp [intOf]; omega

set_option maxHeartbeats 2000000 in
set_option maxRecDepth 100000 in
theorem cloW (w : World) (B n c gd b k : Nat) (ad : Addr) (x : Int) (l : List Int) (D : DataW Unit) (h0 : 0 ≤ x) (h1 : x ≤ 4294967295) (h : Reads w B 1 (some ad) n (bs (itoaL x))) (hd : Blk w gd 52 [.map (some b)]) (hown : w.ownsMap Tryd.prog 24 unitElem b k D) (hD : KeysI .u32 D l) (hk : k ≤ 1000) :
    Calls Tryd.prog 37 #[.slice (some ad) n c, .pointer (some ⟨gd, 0, none⟩)] w fun e w' => e = .returned .nilIface ∧ ∃ D' : DataW Unit, w'.ownsMap Tryd.prog 24 unitElem b (k + 1) D' ∧ KeysI .u32 D' (l ++ [x]) ∧ w.grownBy w' (some b) := by
  have hp := parseW w B n c ad x h0 h1 h
  have r0 := hd.cell 0
  simp only [List.getElem?_cons_zero] at r0
  have hkey : keyOf Tryd.prog 24 (.int .u32 x) = some (.int .u32 x) := keyOf_int_mk Tryd.underlying24 (by simp [Lit.wf, IntKind.min, IntKind.max, IntKind.bits, IntKind.signed]; omega)
  have hgd := hd.lt
  have hbw := hown.lt
  have HP := Lib.hid hp
  have HOWN := Lib.hid hown
  have HD := Lib.hid hD
  have HKEY := Lib.hid hkey
  clear hp hd hown hD hkey h h0 h1
  go_enter Tryd.func37, Tryd.ntmps37
  go_wp2_with (first
    | (go_at_call 38
       go_must (
         (refine HP.out.mono ?_)
         rintro e w1 ⟨rfl, hb1⟩
         have r1 : w1.cell? ⟨gd, 0, none⟩ = some (.map (some b)) := (hb1.cell (p := ⟨gd, 0, none⟩) hgd).trans r0
         have HO1 : Hid (w1.ownsMap Tryd.prog 24 unitElem b k D) := ownsMap_below HOWN.out hb1 hbw
         have HB1 := Lib.hid hb1
         clear hb1))
    | (at_mapUpdate
       go_must (
         refine wpList_mapUpdate_own _ rfl _ _ _ 52 rfl 24 53 lawW Tryd.underlying52 (unitElem (H := Unit)) b k D rfl HO1.out (by unfold maxLen; omega) _ _ _ rfl rfl HKEY.out _ [] unitElem_mk ?_
         intro w2 hown2 hgrow2
         have HOWN2 := Lib.hid hown2
         have HG2 := Lib.hid hgrow2
         clear hown2 hgrow2)))
  go_ret
  exact ⟨rfl, _, HOWN2.out, HD.out.put HOWN.out.isMap (HOWN.out.tidy lawW) x _, grownJ_trans ⟨HB1.out.os, HB1.out.tape, HB1.out.output, HB1.out.size, fun j hj _ => HB1.out.block j hj⟩ HG2.out⟩

set_option maxHeartbeats 8000000 in
set_option maxRecDepth 100000 in
theorem iterW (w : World) (B L c gd b : Nat) (ad : Addr) (z : Bool) (l T : List Int) (hT : T = 91 :: (jg (itB z) l ++ [93])) (hL : L = T.length) (hL2 : L ≤ 100000) (hLc : L ≤ c) (hcm : c ≤ maxLen) (N : Nat) (hN : N = l.length) (hN1 : N ≤ 1000) (hwf : ∀ x ∈ l, 0 ≤ x ∧ x ≤ 4294967295) (h : Reads w B 1 (some ad) L (bs T)) (hB : B ≤ w.heap.size) (hBb : B ≤ b) (hgb : gd ≠ b)
    (hd : Blk w gd 52 [.map (some b)]) (hown : w.ownsMap Tryd.prog 24 (unitElem (H := Unit)) b 0 (.map [] : DataW Unit)) :
    Calls Tryd.prog 36 #[.slice (some ad) L c, .func (.func 37) #[] #[.pointer (some ⟨gd, 0, none⟩)]] w fun e w' => e = .returned .nilIface ∧ ∃ D : DataW Unit, w'.ownsMap Tryd.prog 24 unitElem b N D ∧ KeysI .u32 D l ∧ w.grownBy w' (some b) := by
  have hcm2 : c ≤ 9223372036854775807 := by unfold maxLen at hcm; omega
  have hT0 : T.getD 0 0 = 91 := by rw [hT]; rfl
  have hT2 : 1 < L := by rw [hL, hT]; simp
  obtain ⟨ad0, hA0, _, hc0⟩ := h.byte (k := 0) (by omega)
  cases hA0
  rw [hT0, Addr.add_zero'] at hc0
  have hsk0 : Calls Tryd.prog 50 #[.slice (some ad) L c, .int .i64 0] w fun e w' => e = .returned (.int .i64 0) ∧ w' = w := skip_ws w B L c ad T h hL2 0 0 (Nat.le_refl _) (by omega) (fun m h1 h2 => absurd h2 (by omega)) (fun _ => by rw [hT0]; unfold NoBlank; omega)
  have dl0 : decide ((L : Int) ≤ 0) = false := decide_eq_false (by omega)
  have dl0n : decide (L = 0) = false := decide_eq_false (by omega)
  have HSK0 := Lib.hid hsk0
  have H := Lib.hid h
  have HD0 := Lib.hid hd
  have HO0 := Lib.hid hown
  have HWF := Lib.hid hwf
  have HT := Lib.hid hT
  have HL := Lib.hid hL
  have HN := Lib.hid hN
  by_cases hl0 : l = []
  · have hT1 : T.getD 1 0 = 93 := by rw [hT, hl0]; rfl
    obtain ⟨ad1, hA1, _, hc1⟩ := h.byte (k := 1) (by omega)
    cases hA1
    rw [hT1] at hc1
    have hsk1 : Calls Tryd.prog 50 #[.slice (some ad) L c, .int .i64 1] w fun e w' => e = .returned (.int .i64 1) ∧ w' = w := skip_ws w B L c ad T h hL2 1 1 (Nat.le_refl _) (by omega) (fun m h1 h2 => absurd h2 (by omega)) (fun _ => by rw [hT1]; unfold NoBlank; omega)
    have hc1' : w.cell? ⟨ad.block, ad.off + 1, none⟩ = some (.int .u8 93) := by simpa [Addr.add] using hc1
    have HSK1 := Lib.hid hsk1
    have d1 : decide ((1 : Int) < (L : Int)) = true := decide_eq_true (by omega)
    have d1n : decide (1 < L) = true := decide_eq_true (by omega)
    clear hT hL hN hwf h hd hown hsk0 hsk1 hT0 hT1
    go_enter Tryd.func36, Tryd.ntmps36
    go_wp2_with (
      (go_at_call 50)
      (first
        | (with_reducible refine HSK0.out.mono ?_)
        | (with_reducible refine HSK1.out.mono ?_))
      (rintro e w1 ⟨rfl, hw1⟩)
      (have hw2 := hw1.symm)
      (subst hw2))
    go_ret
    refine ⟨rfl, (.map [] : DataW Unit), ?_, ?_, grownJ_refl _ _⟩
    · have e : N = 0 := by rw [HN.out, hl0]; rfl
      rw [e]; exact HO0.out
    · rw [hl0]; exact KeysI.nil _
  · have hN0 : 0 < N := by
      rcases Nat.eq_zero_or_pos N with h0 | h0
      · exact absurd (List.eq_nil_of_length_eq_zero (by omega)) hl0
      · exact h0
    obtain ⟨sp, hsp⟩ : ∃ sp, sp = (bl z).length := ⟨_, rfl⟩
    have hsp1 : sp ≤ 1 := by rw [hsp]; unfold bl; split <;> simp
    have hcut : ∀ k, k < N → ∃ (c0 : Int) (post : List Int), T = aheadG (itB z) l k ++ (bl z ++ (itoaL (l.getD k 0) ++ c0 :: post)) ∧ (k + 1 = N → c0 = 93 ∧ post = []) ∧ (k + 1 < N → c0 = 44 ∧ (aheadG (itB z) l (k + 1)).length = (aheadG (itB z) l k).length + sp + (itoaL (l.getD k 0)).length + 1) := fun k hk => by
      obtain ⟨post, h1, h2, h3⟩ := jg_cut (itB z) l k (by omega)
      refine ⟨if k + 1 = l.length then 93 else 44, post, ?_, fun e => ⟨if_pos (by omega), h2 (by omega)⟩, fun e => ⟨if_neg (by omega), ?_⟩⟩
      · rw [hT, h1]
        unfold itB
        rw [List.append_assoc]
      · rw [h3 (by omega)]
        unfold itB
        simp only [List.length_append, List.length_cons, List.length_nil]
        omega
    -- the blank ahead of a number, the number's bytes, what stands behind it
    have hpos : ∀ k (hk : k < N), (∀ m, (aheadG (itB z) l k).length ≤ m → m < (aheadG (itB z) l k).length + sp → T.getD m 0 = 32) ∧ (∀ m, (aheadG (itB z) l k).length + sp ≤ m → m < (aheadG (itB z) l k).length + sp + (itoaL (l.getD k 0)).length → T.getD m 0 = 45 ∨ (48 ≤ T.getD m 0 ∧ T.getD m 0 ≤ 57)) ∧ (aheadG (itB z) l k).length + sp + (itoaL (l.getD k 0)).length < L ∧ (k + 1 = N → T.getD ((aheadG (itB z) l k).length + sp + (itoaL (l.getD k 0)).length) 0 = 93) ∧ (k + 1 < N → T.getD ((aheadG (itB z) l k).length + sp + (itoaL (l.getD k 0)).length) 0 = 44) := fun k hk => by
      obtain ⟨c0, post, e1, e2, e3⟩ := hcut k hk
      have e4 : T = (aheadG (itB z) l k ++ bl z) ++ (itoaL (l.getD k 0) ++ c0 :: post) := by rw [e1, List.append_assoc]
      have hpl : (aheadG (itB z) l k ++ bl z).length = (aheadG (itB z) l k).length + sp := by rw [List.length_append, hsp]
      have hch := (itoaL_chars (l.getD k 0)).2
      have hend := getD_endL (aheadG (itB z) l k ++ bl z) (itoaL (l.getD k 0)) post c0
      rw [← e4, hpl] at hend
      refine ⟨fun m h1 h2 => ?_, fun m h1 h2 => ?_, ?_, fun e => by rw [hend, (e2 e).1], fun e => by rw [hend, (e3 e).1]⟩
      · obtain ⟨i, rfl⟩ : ∃ i, m = (aheadG (itB z) l k).length + i := ⟨m - (aheadG (itB z) l k).length, by omega⟩
        have := getD_midL (aheadG (itB z) l k) (bl z) (itoaL (l.getD k 0) ++ c0 :: post) i (by omega)
        rw [← e1] at this
        rw [this]
        unfold bl at hsp ⊢
        by_cases hz : z = true
        · rw [if_pos hz] at hsp ⊢
          obtain rfl : i = 0 := by simp at hsp; omega
          rfl
        · rw [if_neg hz] at hsp
          simp at hsp
          omega
      · obtain ⟨i, rfl⟩ : ∃ i, m = (aheadG (itB z) l k).length + sp + i := ⟨m - ((aheadG (itB z) l k).length + sp), by omega⟩
        have hi : i < (itoaL (l.getD k 0)).length := by omega
        have := getD_midL (aheadG (itB z) l k ++ bl z) (itoaL (l.getD k 0)) (c0 :: post) i hi
        rw [← e4, hpl] at this
        rw [this]
        exact hch _ (getD_memS _ _ hi)
      · have := congrArg List.length e4
        rw [List.length_append, hpl, List.length_append, List.length_cons] at this
        omega
    have hread : ∀ k (hk : k < N), Reads w B 1 (some (ad.add ((aheadG (itB z) l k).length + sp))) (itoaL (l.getD k 0)).length (bs (itoaL (l.getD k 0))) := fun k hk => by
      obtain ⟨c0, post, e1, e2, e3⟩ := hcut k hk
      have e4 : T = (aheadG (itB z) l k ++ bl z) ++ (itoaL (l.getD k 0) ++ c0 :: post) := by rw [e1, List.append_assoc]
      have hpl : (aheadG (itB z) l k ++ bl z).length = (aheadG (itB z) l k).length + sp := by rw [List.length_append, hsp]
      rw [e4] at h
      have := Reads.mid h
      rwa [hpl] at this
    have hnx : ∀ k, k + 1 < N → (aheadG (itB z) l (k + 1)).length = (aheadG (itB z) l k).length + sp + (itoaL (l.getD k 0)).length + 1 := fun k hk => by
      obtain ⟨c0, post, e1, e2, e3⟩ := hcut k (by omega)
      exact (e3 hk).2
    have hskp := fun (W : World) (hW : Reads W B 1 (some ad) L (bs T)) (k : Nat) (hk : k < N) (p : Nat) (h1 : (aheadG (itB z) l k).length ≤ p) (h2 : p ≤ (aheadG (itB z) l k).length + sp) =>
      skip_ws W B L c ad T hW hL2 p ((aheadG (itB z) l k).length + sp) h2 (by have := (hpos k hk).2.2.1; omega) (fun m h3 h4 => (hpos k hk).1 m (by omega) h4) (fun h3 => by
        have := (hpos k hk).2.1 ((aheadG (itB z) l k).length + sp) (Nat.le_refl _) (by have := (itoaL_chars (l.getD k 0)).1; omega)
        unfold NoBlank
        omega)
    have hske := fun (W : World) (hW : Reads W B 1 (some ad) L (bs T)) (k : Nat) (hk : k < N) (e : Nat) (he : e = (aheadG (itB z) l k).length + sp + (itoaL (l.getD k 0)).length) =>
      skip_ws W B L c ad T hW hL2 e e (Nat.le_refl _) (by have := (hpos k hk).2.2.1; omega) (fun m h3 h4 => absurd h4 (by omega)) (fun h3 => by
        have h4 := (hpos k hk).2.2.2
        rw [← he] at h4
        unfold NoBlank
        by_cases hkn : k + 1 = N
        · have := h4.1 hkn; omega
        · have := h4.2 (by omega); omega)
    have hsk1 : Calls Tryd.prog 50 #[.slice (some ad) L c, .int .i64 1] w fun e w' => e = .returned (.int .i64 ((1 + sp : Nat) : Int)) ∧ w' = w := hskp w h 0 hN0 1 (Nat.le_refl _) (by show 1 ≤ 1 + sp; omega)
    have hp0 := hpos 0 hN0
    have ha0 : (aheadG (itB z) l 0).length = 1 := rfl
    rw [ha0] at hp0
    have hb1 := hp0.2.1 (1 + sp) (Nat.le_refl _) (by have := (itoaL_chars (l.getD 0 0)).1; omega)
    have hl1 : 1 + sp < L := by have := hp0.2.2.1; omega
    obtain ⟨ad1, hA1, _, hc1⟩ := h.byte (k := 1 + sp) hl1
    cases hA1
    obtain ⟨b1, hb1e⟩ : ∃ b1, b1 = T.getD (1 + sp) 0 := ⟨_, rfl⟩
    rw [← hb1e] at hc1 hb1
    obtain ⟨q1, hq1e⟩ : ∃ q1, q1 = 1 + sp := ⟨_, rfl⟩
    rw [← hq1e] at hsk1 hc1 hl1
    have x1 : (b1 == 93) = false := by rw [beq_eq_false_iff_ne]; omega
    have d1 : decide ((q1 : Int) < (L : Int)) = true := decide_eq_true (by omega)
    have d1n : decide (q1 < L) = true := decide_eq_true (by omega)
    have hq10 : (0 : Int) ≤ (q1 : Int) := by omega
    have hq11 : (q1 : Int) < (L : Int) := by omega
    have HSK1 := Lib.hid hsk1
    have HPOS := Lib.hid hpos
    have HREAD := Lib.hid hread
    have HNX := Lib.hid hnx
    have HSKP := Lib.hid hskp
    have HSKE := Lib.hid hske
    have HQ1 := Lib.hid hq1e
    clear hown hd hT hL hN hwf h hsk0 hT0 hsk1 hpos hread hnx hskp hske hcut hp0 ha0 hb1 hb1e hq1e hl0
    go_enter Tryd.func36, Tryd.ntmps36
    go_wp2_with (
      (go_at_call 50)
      (first
        | (with_reducible refine HSK0.out.mono ?_)
        | (with_reducible refine HSK1.out.mono ?_))
      (rintro e w1 ⟨rfl, hw1⟩)
      (have hw2 := hw1.symm)
      (subst hw2))
    go_loopw [5] (fun v wr => ∃ k p : Nat, k < N ∧ v = .int .i64 p ∧ (aheadG (itB z) l k).length ≤ p ∧ p ≤ (aheadG (itB z) l k).length + sp ∧ Hid (∃ D : DataW Unit, wr.ownsMap Tryd.prog 24 unitElem b k D ∧ KeysI .u32 D (l.take k)) ∧ Hid (w.grownBy wr (some b))) (fun v _ => L - (intOf v).toNat)
    case atStart => exact ⟨0, q1, hN0, rfl, by have := HQ1.out; show 1 ≤ q1; omega, by have := HQ1.out; show q1 ≤ 1 + sp; omega, ⟨_, HO0.out, by rw [List.take_zero]; exact KeysI.nil _⟩, grownJ_refl _ _⟩
    case round =>
      obtain ⟨k, p, hk, rfl, hp1, hp2, hst, hgr⟩ := hrel
      have hps := HPOS.out k hk
      have hkl : k < l.length := by have := HN.out; omega
      have hbel : ∀ q : Addr, q.block < B → wr.cell? q = w.cell? q := fun q hq => World.cell?_of_block (hgr.out.block _ (by omega) (fun e => by injection e with e; omega))
      have hWr : Reads wr B 1 (some ad) L (bs T) := H.out.keep hbel
      obtain ⟨x, hX⟩ : ∃ x, x = l.getD k 0 := ⟨_, rfl⟩
      have hx := HWF.out x (by rw [hX]; exact getD_memS l k hkl)
      have hrw : Reads wr B 1 (some (ad.add ((aheadG (itB z) l k).length + sp))) (itoaL (l.getD k 0)).length (bs (itoaL (l.getD k 0))) := (HREAD.out k hk).keep hbel
      have hnxk := HNX.out k
      obtain ⟨s0, hs0⟩ : ∃ s0, s0 = (aheadG (itB z) l k).length + sp := ⟨_, rfl⟩
      obtain ⟨e0, he0⟩ : ∃ e0, e0 = s0 + (itoaL (l.getD k 0)).length := ⟨_, rfl⟩
      have HEE : Hid (e0 = (aheadG (itB z) l k).length + sp + (itoaL (l.getD k 0)).length) := (show e0 = (aheadG (itB z) l k).length + sp + (itoaL (l.getD k 0)).length by rw [he0, hs0])
      have hsnoc := take_snocI l k hkl
      have hsk2 := HSKP.out wr hWr k hk p hp1 hp2
      have hsk3 := HSKE.out wr hWr k hk e0 (by rw [he0, hs0])
      rw [← hs0] at hps hsk2 hrw hp2 hnxk
      rw [← he0] at hps hnxk
      rw [← hX] at hrw he0
      obtain ⟨hps1, hps2, hps3, hps4, hps5⟩ := hps
      have hx0 := (itoaL_chars x).1
      have hse : s0 < e0 := by omega
      obtain ⟨D, hown, hD⟩ := hst.out
      have hdr : Blk wr gd 52 [.map (some b)] := HD0.out.grown hgr.out (fun e => hgb (by injection e))
      have hclo := fun (W : World) (c9 : Nat) (hW : Reads W B 1 (some (ad.add s0)) (itoaL x).length (bs (itoaL x))) (h2 : Blk W gd 52 [.map (some b)]) (h3 : W.ownsMap Tryd.prog 24 unitElem b k D) => cloW W B (itoaL x).length c9 gd b k (ad.add s0) x (l.take k) D hx.1 hx.2 hW h2 h3 hD (by omega)
      obtain ⟨n9, hn9⟩ : ∃ n9, n9 = (itoaL x).length := ⟨_, rfl⟩
      rw [← hn9] at hclo hrw he0
      obtain ⟨ads, hAs, _, hcs0⟩ := hWr.byte (k := s0) (by omega)
      cases hAs
      have HSN : Hid (l.take (k + 1) = l.take k ++ [x]) := (show l.take (k + 1) = l.take k ++ [x] by rw [hsnoc, hX])
      clear hsnoc
      have hbs := hps2 s0 (Nat.le_refl _) (by omega)
      obtain ⟨b0, hb0⟩ : ∃ b0, b0 = T.getD s0 0 := ⟨_, rfl⟩
      rw [← hb0] at hcs0 hbs
      have y1 : (b0 == 34) = false := by rw [beq_eq_false_iff_ne]; omega
      have e1 : decide ((L : Int) ≤ (s0 : Int)) = false := decide_eq_false (by omega)
      have e1n : decide (L ≤ s0) = false := decide_eq_false (by omega)
      have g1 : (0 : Int) ≤ (s0 : Int) := by omega
      have g2 : (s0 : Int) < (L : Int) := by omega
      have hsb : s0 ≤ 100000 := by omega
      have heb : e0 ≤ 100000 := by omega
      have HWR := Lib.hid hWr
      have HSK2 := Lib.hid hsk2
      have HSK3 := Lib.hid hsk3
      have HPS2 := Lib.hid hps2
      have HPS4 := Lib.hid hps4
      have HPS5 := Lib.hid hps5
      have HOWN := Lib.hid hown
      have HDR := Lib.hid hdr
      have HCLO := Lib.hid hclo
      have HRW := Lib.hid hrw
      have HX := Lib.hid hX
      have HE0 := Lib.hid he0
      have HNXK := Lib.hid hnxk
      have HGR := Lib.hid hgr.out
      clear hWr hsk2 hsk3 hps1 hps2 hps4 hps5 hown hdr hclo hrw hX he0 hnxk hst hbel hx hb0 hbs hs0 hn9 hD
      go_wp2_with (
        (go_at_call 50)
        go_must (
          (refine HSK2.out.mono ?_)
          rintro e w1 ⟨rfl, rfl⟩))
      go_loopw [5] (fun v wi => ∃ m : Nat, s0 ≤ m ∧ m ≤ e0 ∧ v = .int .i64 m ∧ wi = w1) (fun v _ => L - (intOf v).toNat)
      case atStart => exact ⟨s0, Nat.le_refl _, by omega, rfl, rfl⟩
      case round =>
        obtain ⟨m, hm1, hm2, rfl, hwi⟩ := hrel
        have hwi2 := hwi.symm
        subst hwi2
        have f1 : decide ((m : Int) < (L : Int)) = true := decide_eq_true (by omega)
        have f1n : decide (m < L) = true := decide_eq_true (by omega)
        have f2 : (0 : Int) ≤ (m : Int) := by omega
        have f3 : (m : Int) < (L : Int) := by omega
        obtain ⟨adm, hAm, _, hcm⟩ := HWR.out.byte (k := m) (by omega)
        cases hAm
        by_cases hlt : m < e0
        · have hbm := HPS2.out m hm1 (by have := HE0.out; omega)
          obtain ⟨bm, hbme⟩ : ∃ bm, bm = T.getD m 0 := ⟨_, rfl⟩
          rw [← hbme] at hcm hbm
          have z1 : (bm == 44) = false := by rw [beq_eq_false_iff_ne]; omega
          have zn1 : (bm != 44) = true := by rw [bne, z1]; rfl
          have zd1 : decide (bm = 44) = false := decide_eq_false (by omega)
          have z2 : (bm == 93) = false := by rw [beq_eq_false_iff_ne]; omega
          have zn2 : (bm != 93) = true := by rw [bne, z2]; rfl
          have zd2 : decide (bm = 93) = false := decide_eq_false (by omega)
          have z3 : (bm == 32) = false := by rw [beq_eq_false_iff_ne]; omega
          have zn3 : (bm != 32) = true := by rw [bne, z3]; rfl
          have zd3 : decide (bm = 32) = false := decide_eq_false (by omega)
          have z4 : (bm == 9) = false := by rw [beq_eq_false_iff_ne]; omega
          have zn4 : (bm != 9) = true := by rw [bne, z4]; rfl
          have zd4 : decide (bm = 9) = false := decide_eq_false (by omega)
          have z5 : (bm == 10) = false := by rw [beq_eq_false_iff_ne]; omega
          have zn5 : (bm != 10) = true := by rw [bne, z5]; rfl
          have zd5 : decide (bm = 10) = false := decide_eq_false (by omega)
          have z6 : (bm == 13) = false := by rw [beq_eq_false_iff_ne]; omega
          have zn6 : (bm != 13) = true := by rw [bne, z6]; rfl
          have zd6 : decide (bm = 13) = false := decide_eq_false (by omega)
          clear hbm hbme
          go_wp2
          go_roundw
          case rel => exact ⟨m + 1, by omega, by omega, by go_num, by first | trivial | rfl⟩
          case measure => simp [intOf]; omega
        · obtain rfl : m = e0 := by omega
          have hcs : (c = s0) = False := eq_false (by omega)
          have k1 : (s0 : Int) ≤ (m : Int) := by omega
          have k2 : (m : Int) ≤ (c : Int) := by omega
          obtain rfl : n9 = m - s0 := by have := HE0.out; omega
          by_cases hkn : k + 1 = N
          · have hT9 := HPS4.out hkn
            rw [hT9] at hcm
            go_wp2_with (first
              | (go_at_call 37
                 go_must (
                   (refine (HCLO.out w1 _ HRW.out HDR.out HOWN.out).mono ?_)
                   rintro e w2 ⟨rfl, D2, hown2, hD2, hg2⟩
                   have hq2 := hg2.size
                   have hW2 : Reads w2 B 1 (some ad) L (bs T) := HWR.out.keep (fun q hq => World.cell?_of_block (hg2.block _ (by have := HGR.out.size; omega) (fun e => by injection e with e; omega)))
                   have hsk4 := HSKE.out w2 hW2 k hk m HEE.out
                   obtain ⟨ad4, hA4, _, hcm4⟩ := hW2.byte (k := m) (by omega)
                   cases hA4
                   rw [hT9] at hcm4
                   have HSK4 := Lib.hid hsk4
                   have HO2 := Lib.hid hown2
                   have HD2 := Lib.hid hD2
                   have HG2 := Lib.hid hg2
                   have HDR2 : Hid (Blk w2 gd 52 [.map (some b)]) := HDR.out.grown hg2 (fun e => hgb (by injection e))
                   clear hown2 hD2 hg2 hW2 hsk4))
              | (go_at_call 50
                 go_must (
                   (refine HSK4.out.mono ?_)
                   rintro e w3 ⟨rfl, rfl⟩)))
            go_ret
            refine ⟨rfl, D2, by rw [← hkn]; exact HO2.out, ?_, grownJ_trans HGR.out HG2.out⟩
            have hall : l.take (k + 1) = l := by rw [hkn, HN.out, List.take_length]
            rw [← hall, HSN.out]
            exact HD2.out
          · have hT9 := HPS5.out (by omega)
            rw [hT9] at hcm
            go_wp2_with (first
              | (go_at_call 37
                 go_must (
                   (refine (HCLO.out w1 _ HRW.out HDR.out HOWN.out).mono ?_)
                   rintro e w2 ⟨rfl, D2, hown2, hD2, hg2⟩
                   have hq2 := hg2.size
                   have hW2 : Reads w2 B 1 (some ad) L (bs T) := HWR.out.keep (fun q hq => World.cell?_of_block (hg2.block _ (by have := HGR.out.size; omega) (fun e => by injection e with e; omega)))
                   have hsk4 := HSKE.out w2 hW2 k hk m HEE.out
                   obtain ⟨ad4, hA4, _, hcm4⟩ := hW2.byte (k := m) (by omega)
                   cases hA4
                   rw [hT9] at hcm4
                   have HSK4 := Lib.hid hsk4
                   have HO2 := Lib.hid hown2
                   have HD2 := Lib.hid hD2
                   have HG2 := Lib.hid hg2
                   have HDR2 : Hid (Blk w2 gd 52 [.map (some b)]) := HDR.out.grown hg2 (fun e => hgb (by injection e))
                   clear hown2 hD2 hg2 hW2 hsk4))
              | (go_at_call 50
                 go_must (
                   (refine HSK4.out.mono ?_)
                   rintro e w3 ⟨rfl, rfl⟩)))
            go_roundw
            case rel =>
              have hx1 := HNXK.out (by omega)
              exact ⟨k + 1, m + 1, by omega, by go_num, by omega, by omega, ⟨_, HO2.out, by rw [HSN.out]; exact HD2.out⟩, grownJ_trans HGR.out HG2.out⟩
            case measure => simp [intOf]; omega
end Go.Proofs.YtikpmeedjdddoaaDoor
