/- impl.GetSetInt16, GetSetUint64, GetSetInt. PRINTED by wip/genst.py. -/
import Derived.Test.YtfhaddnacdjpoaaDoorSq
import Derived.Test.YtfhaddnacdjpoaaDoorRk
namespace Go.Proofs.YtfhaddnacdjpoaaDoor
open Go.RowKit Go.Maps Go.Sort Go.ChangeShapes Go.WideShapes Go.Shelf
set_option linter.unusedVariables false

theorem catF_len (es : Nat → List Int) : ∀ k m, (∀ i, m ≤ i → i < m + k → 0 < (es i).length ∧ (es i).length ≤ 9) → k ≤ (catF es m k).length ∧ (catF es m k).length ≤ 9 * k
  | 0, m, _ => by simp [catF]
  | k + 1, m, h => by
    have h1 := catF_len es k (m + 1) (fun i a b => h i (by omega) (by omega))
    have h2 := h m (Nat.le_refl _) (by omega)
    rw [catF, List.length_append]
    omega
theorem own_belowS2 {w w' : World} {base n sz : Nat} {t : TypeId} {v : Value} {xs : List Value} (h : w.ownsRow base t sz v n xs) (hb : Below w.heap.size w w') : w'.ownsRow base t sz v n xs :=
  h.kept (row := none) ⟨hb.os, hb.tape, hb.output, hb.size, fun k hk _ => hb.block k hk⟩ (by cases hv : v.ownBlock <;> simp)

set_option maxHeartbeats 4000000 in
set_option maxRecDepth 100000 in
theorem getSH (w : World) (B c N : Nat) (A : Option Addr) (hd tot : List Int) (es : Nat → List Int) (l : List Int) (hN : N = l.length) (hl : N ≤ 1000) (hf : HeadX N 144 16 [(220, 2), (221, 4)] hd) (he : ∀ i, i < N → IntF (l.getD i 0) (es i)) (hwf : ∀ x ∈ l, -32768 ≤ x ∧ x ≤ 32767) (htot : tot.length ≤ 1000)
    (h : Reads w B 1 A (hd ++ (catF es 0 N ++ tot)).length (bs (hd ++ (catF es 0 N ++ tot)))) (hmc : (hd ++ (catF es 0 N ++ tot)).length ≤ c) (hcm : c ≤ maxLen) (hB : B ≤ w.heap.size) :
    Calls Tryd.prog 6 #[.slice A (hd ++ (catF es 0 N ++ tot)).length c] w fun e w' => ∃ (out : List Int) (A1 : Option Addr) (c1 : Nat) (A2 : Option Addr) (c2 : Nat), SetOf l out ∧ e = .returned (.tuple #[.slice A1 out.length c1, .slice A2 tot.length c2, .bool true]) ∧ w'.ownsRow w.heap.size 27 1 (.slice A1 out.length c1) out.length (out.map (Value.int .i16)) ∧ Reads w' w'.heap.size 1 A2 tot.length (bs tot) ∧ Below w.heap.size w w' := by
  have hlen1 := catF_len es N 0 (fun i _ hi => by have := intF_len (he i (by omega)); omega)
  have hC0 := enough_yes w B c A N hd hf hl (catF es 0 N ++ tot) (by rw [List.length_append]; omega) h hmc hcm hB
  have hlb : (hd ++ (catF es 0 N ++ tot)).length ≤ 70368744177664 := by
    have := (headX_len hf (by simp)).2
    simp only [List.length_append]
    omega
  obtain ⟨L0, hL0⟩ : ∃ L0, L0 = (hd ++ (catF es 0 N ++ tot)).length := ⟨_, rfl⟩
  have hcp := fun (W : World) (hb : Below w.heap.size w W) => copied_b W A c (hd ++ (catF es 0 N ++ tot)) ((h.below (hb.mono hB)).more (Nat.le_trans hB hb.size)) hlb
  rw [← hL0] at hC0 hcp ⊢
  have HC0 := Lib.hid hC0
  have HCP := Lib.hid hcp
  have HF := Lib.hid hf
  have HE := Lib.hid he
  have HWF := Lib.hid hwf
  have HN := Lib.hid hN
  have HL0 := Lib.hid hL0
  have htm : tot.length ≤ 9223372036854775807 := by omega
  obtain ⟨i0, hi0, hz0, hz1, hz2⟩ := info_parts infoH
  clear hC0 hcp hf he hwf hN hL0 h hmc hcm hB hlb hlen1
  go_enter Tryd.func6, Tryd.ntmps6
  go_wp2_with (first
    | (go_at_call 17
       go_must (
         (refine HC0.out.mono ?_)
         rintro e w1 ⟨rfl, hb1⟩
         have HB1 := Lib.hid hb1
         have hq1 := hb1.size
         clear hb1))
    | (go_at_call 19
       go_must (
         (refine (HCP.out _ (HB1.out.alloc hq1 _)).mono ?_)
         rintro e w2 ⟨g, cs, rfl, hb, hn2, hm2, ht2, hg2, hbel2⟩
         have hrd := bs_reads hb hn2 ht2
         have hsb := (Blk.new w1 53 [.map none]).below hbel2 (by simp)
         have hlc : (hd ++ (catF es 0 N ++ tot)).length ≤ cs.length := hn2
         rw [← HL0.out] at hrd ⊢
         have HRD := Lib.hid hrd
         have HSB := Lib.hid hsb
         have HM2 := Lib.hid (And.intro hlc hm2)
         have HBEL2 : Hid (Below w.heap.size w w2) := (HB1.out.alloc hq1 _).trans (hbel2.mono (by simp; omega))
         have hq2 := hbel2.size
         simp only [World.size_alloc] at hq2
         clear hb hn2 hm2 ht2 hbel2 hrd hsb hlc))
    | (go_at_call 18
       go_must (
         (refine ((by rw [HL0.out]; rw [HL0.out] at HRD; exact unmH w2 w2.heap.size w1.heap.size cs.length N (some ⟨g, 0, none⟩) hd tot es l HN.out hl HF.out HE.out HWF.out HRD.out HM2.out.1 HM2.out.2 (Nat.le_refl _) HSB.out : Calls Tryd.prog 18 #[.pointer (some ⟨w1.heap.size, 0, none⟩), .slice (some ⟨g, 0, none⟩) L0 cs.length] w2 _)).mono ?_)
         rintro e w3 ⟨A3, c3, b, D, rfl, hl3, hm3, hr3, hs3, hown3, hD3, hb3, hg3⟩
         obtain ⟨m, hm⟩ : ∃ m, m = tot.length := ⟨_, rfl⟩
         have s3 := hs3.cell 0
         simp only [List.getElem?_cons_zero] at s3
         have hq3 := hg3.size
         have HBEL3 : Hid (Below w.heap.size w w3) := HBEL2.out.grown hg3 (by omega) (fun j hj => by cases hj; omega)
         have HR3 := Lib.hid hr3
         have HOWN3 := Lib.hid hown3
         have HD3 := Lib.hid hD3
         clear hr3 hs3 hown3 hD3 hg3 hl3 hm3 hm))
    | (go_at_call 20
       go_must (
         (refine (sliceH w3 b N D l HOWN3.out HD3.out (by rw [← HN.out]; exact hl)).mono ?_)
         rintro e w4 ⟨out, g4, c4, hso, rfl, hown4, hbel4⟩
         obtain ⟨k4, hk4⟩ : ∃ k4, k4 = out.length := ⟨_, rfl⟩
         rw [← hk4] at hown4 ⊢
         have hk5 : k4 ≤ 1000 := by have := hso.2.2; have := HN.out; omega
         have HSO := Lib.hid hso
         have HK4 := Lib.hid hk4
         have HR4 : Hid (Reads w4 w4.heap.size 1 (some ⟨g4, 0, none⟩) k4 (out.map (Value.int .i16))) := Reads.of_own hown4
         have HBEL4 : Hid (Below w.heap.size w w4) := HBEL3.out.trans (hbel4.mono (by omega))
         have HT4 : Hid (Reads w4 w3.heap.size 1 A3 tot.length (bs tot)) := (HR3.out.more hq3).below hbel4
         have hq4 := hbel4.size
         clear hown4 hbel4 hso hk4)))
  go_loopw [2, 23] (fun d i wr => ∃ (k : Nat) (A' : Option Addr) (c' : Nat), k ≤ k4 ∧ i = .int .i64 (k : Nat) ∧ d = .slice A' k c' ∧ Hid (wr.ownsRow w4.heap.size 27 1 (.slice A' k c') k ((out.take k).map (Value.int .i16)) ∧ Below w4.heap.size w4 wr)) (fun _ i _ => k4 - (intOf i).toNat)
  case atStart => exact ⟨0, none, 0, Nat.zero_le _, rfl, rfl, World.ownsRow_nil _ _ _ _, Below.refl _ _⟩
  case round =>
    obtain ⟨k, A', c', hk, rfl, rfl, hst⟩ := hrel
    by_cases hlt : k < k4
    · have dk : decide ((k : Int) < (k4 : Int)) = true := decide_eq_true (by omega)
      obtain ⟨ad, hA, hadB, hkl, hcell0⟩ := HR4.out.list hlt
      cases hA
      have hcell1 : wr.cell? ((⟨g4, 0, none⟩ : Addr).add k) = some (.int .i16 (out.getD k 0)) := (hst.out.2.cell (by rw [block_of_add]; exact hadB)).trans hcell0
      have hcell : wr.cell? ⟨g4, k, none⟩ = some (.int .i16 (out.getD k 0)) := by rwa [add_lit, Nat.zero_add] at hcell1
      obtain ⟨x, hX⟩ : ∃ x, x = out.getD k 0 := ⟨_, rfl⟩
      rw [← hX] at hcell
      have hsn : (out.take (k + 1)).map (Value.int .i16) = (out.take k).map (Value.int .i16) ++ [.int .i16 x] := by rw [take_snocI out k hkl, List.map_append, ← hX]; rfl
      have HSN := Lib.hid hsn
      have hwz : w4.heap.size ≤ wr.heap.size := hst.out.2.size
      clear hcell0 hcell1 hsn hX
      go_wp2_with (
        (at_builtin)
        go_must (
          (refine wpList_append_any _ rfl (.tmp 27) (.tmp 29) 22 rfl w4.heap.size 27 i0 _ 1 2 Tryd.underlying22 hi0 hz0 hz1 hz2 rfl (by omega) (.slice A' k c') k _ rfl (hst.out.1.alloc _) (wr.heap.size + 1) _ 1 1 [.int .i16 x] rfl (reads_oneP _ _ _) (by intro u hu; rw [List.mem_singleton] at hu; subst hu; rfl) (by simp only [maxLen]; omega) (by omega) (by simp; omega) ?_)
          intro v1 w1' hown1 hg1 hat1
          obtain ⟨A1', c1', rfl⟩ := own_formS hown1
          have HO1 := Lib.hid hown1
          have HG1 := Lib.hid hg1
          clear hown1 hg1 hat1))
      go_roundw
      case rel =>
        refine ⟨k + 1, A1', c1', by omega, by go_num, by first | trivial | rfl, ?_, ?_⟩
        · rw [HSN.out]; exact HO1.out
        · exact (hst.out.2.alloc hwz _).grown HG1.out (by simp; omega) (fun j hj => (hst.out.1.lt j hj).1)
      case measure => simp [intOf]; omega
    · obtain rfl : k = k4 := by omega
      have dk : decide ((k : Int) < (k : Int)) = false := decide_eq_false (by omega)
      have hbr : Below w.heap.size w wr := HBEL4.out.trans (hst.out.2.mono (by omega))
      have hown := hst.out.1
      rw [HK4.out, List.take_length, ← HK4.out] at hown
      have hc5 := copied_b wr A3 c3 tot ((HT4.out.below (hst.out.2.mono (by omega))).more (by have := hst.out.2.size; omega)) (by omega)
      have HC5 := Lib.hid hc5
      have HBR := Lib.hid hbr
      have hq := hbr.size
      have HOWN := Lib.hid hown
      have hwz : w4.heap.size ≤ wr.heap.size := hst.out.2.size
      clear hbr hc5 hown hst
      go_wp2_with (
        (go_at_call 19)
        go_must (
          (refine HC5.out.mono ?_)
          rintro e w6 ⟨g6, cs6, rfl, hb6, hn6, hm6, ht6, hg6, hbel6⟩
          have HR6 := Lib.hid (bs_reads hb6 hn6 ht6)
          have HBEL6 := Lib.hid hbel6
          clear hb6 hn6 hm6 ht6 hbel6))
      ((try simp only [Exit.inBlock, Exit.then]); refine bodyPost_ret (results_tmp3Q rfl _ _ _) rfl ?_)
      refine ⟨out, A', c', some ⟨g6, 0, none⟩, cs6.length, HSO.out, by rw [← HK4.out]; rfl, ?_, HR6.out, HBR.out.trans (HBEL6.out.mono hq)⟩
      rw [← HK4.out]
      exact own_lower (own_belowS2 HOWN.out HBEL6.out) (by omega)

set_option maxHeartbeats 4000000 in
set_option maxRecDepth 100000 in
theorem getSU (w : World) (B c N : Nat) (A : Option Addr) (hd tot : List Int) (es : Nat → List Int) (l : List Int) (hN : N = l.length) (hl : N ≤ 1000) (hf : HeadX N 144 16 [(220, 2), (221, 4)] hd) (he : ∀ i, i < N → IntF (l.getD i 0) (es i)) (hwf : ∀ x ∈ l, 0 ≤ x ∧ x ≤ 18446744073709551615) (htot : tot.length ≤ 1000)
    (h : Reads w B 1 A (hd ++ (catF es 0 N ++ tot)).length (bs (hd ++ (catF es 0 N ++ tot)))) (hmc : (hd ++ (catF es 0 N ++ tot)).length ≤ c) (hcm : c ≤ maxLen) (hB : B ≤ w.heap.size) :
    Calls Tryd.prog 11 #[.slice A (hd ++ (catF es 0 N ++ tot)).length c] w fun e w' => ∃ (out : List Int) (A1 : Option Addr) (c1 : Nat) (A2 : Option Addr) (c2 : Nat), SetOf l out ∧ e = .returned (.tuple #[.slice A1 out.length c1, .slice A2 tot.length c2, .bool true]) ∧ w'.ownsRow w.heap.size 23 1 (.slice A1 out.length c1) out.length (out.map (Value.int .u64)) ∧ Reads w' w'.heap.size 1 A2 tot.length (bs tot) ∧ Below w.heap.size w w' := by
  have hlen1 := catF_len es N 0 (fun i _ hi => by have := intF_len (he i (by omega)); omega)
  have hC0 := enough_yes w B c A N hd hf hl (catF es 0 N ++ tot) (by rw [List.length_append]; omega) h hmc hcm hB
  have hlb : (hd ++ (catF es 0 N ++ tot)).length ≤ 70368744177664 := by
    have := (headX_len hf (by simp)).2
    simp only [List.length_append]
    omega
  obtain ⟨L0, hL0⟩ : ∃ L0, L0 = (hd ++ (catF es 0 N ++ tot)).length := ⟨_, rfl⟩
  have hcp := fun (W : World) (hb : Below w.heap.size w W) => copied_b W A c (hd ++ (catF es 0 N ++ tot)) ((h.below (hb.mono hB)).more (Nat.le_trans hB hb.size)) hlb
  rw [← hL0] at hC0 hcp ⊢
  have HC0 := Lib.hid hC0
  have HCP := Lib.hid hcp
  have HF := Lib.hid hf
  have HE := Lib.hid he
  have HWF := Lib.hid hwf
  have HN := Lib.hid hN
  have HL0 := Lib.hid hL0
  have htm : tot.length ≤ 9223372036854775807 := by omega
  obtain ⟨i0, hi0, hz0, hz1, hz2⟩ := info_parts infoU
  clear hC0 hcp hf he hwf hN hL0 h hmc hcm hB hlb hlen1
  go_enter Tryd.func11, Tryd.ntmps11
  go_wp2_with (first
    | (go_at_call 17
       go_must (
         (refine HC0.out.mono ?_)
         rintro e w1 ⟨rfl, hb1⟩
         have HB1 := Lib.hid hb1
         have hq1 := hb1.size
         clear hb1))
    | (go_at_call 19
       go_must (
         (refine (HCP.out _ (HB1.out.alloc hq1 _)).mono ?_)
         rintro e w2 ⟨g, cs, rfl, hb, hn2, hm2, ht2, hg2, hbel2⟩
         have hrd := bs_reads hb hn2 ht2
         have hsb := (Blk.new w1 67 [.map none]).below hbel2 (by simp)
         have hlc : (hd ++ (catF es 0 N ++ tot)).length ≤ cs.length := hn2
         rw [← HL0.out] at hrd ⊢
         have HRD := Lib.hid hrd
         have HSB := Lib.hid hsb
         have HM2 := Lib.hid (And.intro hlc hm2)
         have HBEL2 : Hid (Below w.heap.size w w2) := (HB1.out.alloc hq1 _).trans (hbel2.mono (by simp; omega))
         have hq2 := hbel2.size
         simp only [World.size_alloc] at hq2
         clear hb hn2 hm2 ht2 hbel2 hrd hsb hlc))
    | (go_at_call 25
       go_must (
         (refine ((by rw [HL0.out]; rw [HL0.out] at HRD; exact unmU w2 w2.heap.size w1.heap.size cs.length N (some ⟨g, 0, none⟩) hd tot es l HN.out hl HF.out HE.out HWF.out HRD.out HM2.out.1 HM2.out.2 (Nat.le_refl _) HSB.out : Calls Tryd.prog 25 #[.pointer (some ⟨w1.heap.size, 0, none⟩), .slice (some ⟨g, 0, none⟩) L0 cs.length] w2 _)).mono ?_)
         rintro e w3 ⟨A3, c3, b, D, rfl, hl3, hm3, hr3, hs3, hown3, hD3, hb3, hg3⟩
         obtain ⟨m, hm⟩ : ∃ m, m = tot.length := ⟨_, rfl⟩
         have s3 := hs3.cell 0
         simp only [List.getElem?_cons_zero] at s3
         have hq3 := hg3.size
         have HBEL3 : Hid (Below w.heap.size w w3) := HBEL2.out.grown hg3 (by omega) (fun j hj => by cases hj; omega)
         have HR3 := Lib.hid hr3
         have HOWN3 := Lib.hid hown3
         have HD3 := Lib.hid hD3
         clear hr3 hs3 hown3 hD3 hg3 hl3 hm3 hm))
    | (go_at_call 26
       go_must (
         (refine (sliceU w3 b N D l HOWN3.out HD3.out (by rw [← HN.out]; exact hl)).mono ?_)
         rintro e w4 ⟨out, g4, c4, hso, rfl, hown4, hbel4⟩
         obtain ⟨k4, hk4⟩ : ∃ k4, k4 = out.length := ⟨_, rfl⟩
         rw [← hk4] at hown4 ⊢
         have hk5 : k4 ≤ 1000 := by have := hso.2.2; have := HN.out; omega
         have HSO := Lib.hid hso
         have HK4 := Lib.hid hk4
         have HR4 : Hid (Reads w4 w4.heap.size 1 (some ⟨g4, 0, none⟩) k4 (out.map (Value.int .u64))) := Reads.of_own hown4
         have HBEL4 : Hid (Below w.heap.size w w4) := HBEL3.out.trans (hbel4.mono (by omega))
         have HT4 : Hid (Reads w4 w3.heap.size 1 A3 tot.length (bs tot)) := (HR3.out.more hq3).below hbel4
         have hq4 := hbel4.size
         clear hown4 hbel4 hso hk4)))
  go_loopw [2, 23] (fun d i wr => ∃ (k : Nat) (A' : Option Addr) (c' : Nat), k ≤ k4 ∧ i = .int .i64 (k : Nat) ∧ d = .slice A' k c' ∧ Hid (wr.ownsRow w4.heap.size 23 1 (.slice A' k c') k ((out.take k).map (Value.int .u64)) ∧ Below w4.heap.size w4 wr)) (fun _ i _ => k4 - (intOf i).toNat)
  case atStart => exact ⟨0, none, 0, Nat.zero_le _, rfl, rfl, World.ownsRow_nil _ _ _ _, Below.refl _ _⟩
  case round =>
    obtain ⟨k, A', c', hk, rfl, rfl, hst⟩ := hrel
    by_cases hlt : k < k4
    · have dk : decide ((k : Int) < (k4 : Int)) = true := decide_eq_true (by omega)
      obtain ⟨ad, hA, hadB, hkl, hcell0⟩ := HR4.out.list hlt
      cases hA
      have hcell1 : wr.cell? ((⟨g4, 0, none⟩ : Addr).add k) = some (.int .u64 (out.getD k 0)) := (hst.out.2.cell (by rw [block_of_add]; exact hadB)).trans hcell0
      have hcell : wr.cell? ⟨g4, k, none⟩ = some (.int .u64 (out.getD k 0)) := by rwa [add_lit, Nat.zero_add] at hcell1
      obtain ⟨x, hX⟩ : ∃ x, x = out.getD k 0 := ⟨_, rfl⟩
      rw [← hX] at hcell
      have hsn : (out.take (k + 1)).map (Value.int .u64) = (out.take k).map (Value.int .u64) ++ [.int .u64 x] := by rw [take_snocI out k hkl, List.map_append, ← hX]; rfl
      have HSN := Lib.hid hsn
      have hwz : w4.heap.size ≤ wr.heap.size := hst.out.2.size
      clear hcell0 hcell1 hsn hX
      go_wp2_with (
        (at_builtin)
        go_must (
          (refine wpList_append_any _ rfl (.tmp 27) (.tmp 29) 39 rfl w4.heap.size 23 i0 _ 1 8 Tryd.underlying39 hi0 hz0 hz1 hz2 rfl (by omega) (.slice A' k c') k _ rfl (hst.out.1.alloc _) (wr.heap.size + 1) _ 1 1 [.int .u64 x] rfl (reads_oneP _ _ _) (by intro u hu; rw [List.mem_singleton] at hu; subst hu; rfl) (by simp only [maxLen]; omega) (by omega) (by simp; omega) ?_)
          intro v1 w1' hown1 hg1 hat1
          obtain ⟨A1', c1', rfl⟩ := own_formS hown1
          have HO1 := Lib.hid hown1
          have HG1 := Lib.hid hg1
          clear hown1 hg1 hat1))
      go_roundw
      case rel =>
        refine ⟨k + 1, A1', c1', by omega, by go_num, by first | trivial | rfl, ?_, ?_⟩
        · rw [HSN.out]; exact HO1.out
        · exact (hst.out.2.alloc hwz _).grown HG1.out (by simp; omega) (fun j hj => (hst.out.1.lt j hj).1)
      case measure => simp [intOf]; omega
    · obtain rfl : k = k4 := by omega
      have dk : decide ((k : Int) < (k : Int)) = false := decide_eq_false (by omega)
      have hbr : Below w.heap.size w wr := HBEL4.out.trans (hst.out.2.mono (by omega))
      have hown := hst.out.1
      rw [HK4.out, List.take_length, ← HK4.out] at hown
      have hc5 := copied_b wr A3 c3 tot ((HT4.out.below (hst.out.2.mono (by omega))).more (by have := hst.out.2.size; omega)) (by omega)
      have HC5 := Lib.hid hc5
      have HBR := Lib.hid hbr
      have hq := hbr.size
      have HOWN := Lib.hid hown
      have hwz : w4.heap.size ≤ wr.heap.size := hst.out.2.size
      clear hbr hc5 hown hst
      go_wp2_with (
        (go_at_call 19)
        go_must (
          (refine HC5.out.mono ?_)
          rintro e w6 ⟨g6, cs6, rfl, hb6, hn6, hm6, ht6, hg6, hbel6⟩
          have HR6 := Lib.hid (bs_reads hb6 hn6 ht6)
          have HBEL6 := Lib.hid hbel6
          clear hb6 hn6 hm6 ht6 hbel6))
      ((try simp only [Exit.inBlock, Exit.then]); refine bodyPost_ret (results_tmp3Q rfl _ _ _) rfl ?_)
      refine ⟨out, A', c', some ⟨g6, 0, none⟩, cs6.length, HSO.out, by rw [← HK4.out]; rfl, ?_, HR6.out, HBR.out.trans (HBEL6.out.mono hq)⟩
      rw [← HK4.out]
      exact own_lower (own_belowS2 HOWN.out HBEL6.out) (by omega)

set_option maxHeartbeats 4000000 in
set_option maxRecDepth 100000 in
theorem getSJ (w : World) (B c N : Nat) (A : Option Addr) (hd tot : List Int) (es : Nat → List Int) (l : List Int) (hN : N = l.length) (hl : N ≤ 1000) (hf : HeadX N 144 16 [(220, 2), (221, 4)] hd) (he : ∀ i, i < N → IntF (l.getD i 0) (es i)) (hwf : ∀ x ∈ l, -9223372036854775808 ≤ x ∧ x ≤ 9223372036854775807) (htot : tot.length ≤ 1000)
    (h : Reads w B 1 A (hd ++ (catF es 0 N ++ tot)).length (bs (hd ++ (catF es 0 N ++ tot)))) (hmc : (hd ++ (catF es 0 N ++ tot)).length ≤ c) (hcm : c ≤ maxLen) (hB : B ≤ w.heap.size) :
    Calls Tryd.prog 14 #[.slice A (hd ++ (catF es 0 N ++ tot)).length c] w fun e w' => ∃ (out : List Int) (A1 : Option Addr) (c1 : Nat) (A2 : Option Addr) (c2 : Nat), SetOf l out ∧ e = .returned (.tuple #[.slice A1 out.length c1, .slice A2 tot.length c2, .bool true]) ∧ w'.ownsRow w.heap.size 2 1 (.slice A1 out.length c1) out.length (out.map (Value.int .i64)) ∧ Reads w' w'.heap.size 1 A2 tot.length (bs tot) ∧ Below w.heap.size w w' := by
  have hlen1 := catF_len es N 0 (fun i _ hi => by have := intF_len (he i (by omega)); omega)
  have hC0 := enough_yes w B c A N hd hf hl (catF es 0 N ++ tot) (by rw [List.length_append]; omega) h hmc hcm hB
  have hlb : (hd ++ (catF es 0 N ++ tot)).length ≤ 70368744177664 := by
    have := (headX_len hf (by simp)).2
    simp only [List.length_append]
    omega
  obtain ⟨L0, hL0⟩ : ∃ L0, L0 = (hd ++ (catF es 0 N ++ tot)).length := ⟨_, rfl⟩
  have hcp := fun (W : World) (hb : Below w.heap.size w W) => copied_b W A c (hd ++ (catF es 0 N ++ tot)) ((h.below (hb.mono hB)).more (Nat.le_trans hB hb.size)) hlb
  rw [← hL0] at hC0 hcp ⊢
  have HC0 := Lib.hid hC0
  have HCP := Lib.hid hcp
  have HF := Lib.hid hf
  have HE := Lib.hid he
  have HWF := Lib.hid hwf
  have HN := Lib.hid hN
  have HL0 := Lib.hid hL0
  have htm : tot.length ≤ 9223372036854775807 := by omega
  obtain ⟨i0, hi0, hz0, hz1, hz2⟩ := info_parts infoL
  clear hC0 hcp hf he hwf hN hL0 h hmc hcm hB hlb hlen1
  go_enter Tryd.func14, Tryd.ntmps14
  go_wp2_with (first
    | (go_at_call 17
       go_must (
         (refine HC0.out.mono ?_)
         rintro e w1 ⟨rfl, hb1⟩
         have HB1 := Lib.hid hb1
         have hq1 := hb1.size
         clear hb1))
    | (go_at_call 19
       go_must (
         (refine (HCP.out _ (HB1.out.alloc hq1 _)).mono ?_)
         rintro e w2 ⟨g, cs, rfl, hb, hn2, hm2, ht2, hg2, hbel2⟩
         have hrd := bs_reads hb hn2 ht2
         have hsb := (Blk.new w1 70 [.map none]).below hbel2 (by simp)
         have hlc : (hd ++ (catF es 0 N ++ tot)).length ≤ cs.length := hn2
         rw [← HL0.out] at hrd ⊢
         have HRD := Lib.hid hrd
         have HSB := Lib.hid hsb
         have HM2 := Lib.hid (And.intro hlc hm2)
         have HBEL2 : Hid (Below w.heap.size w w2) := (HB1.out.alloc hq1 _).trans (hbel2.mono (by simp; omega))
         have hq2 := hbel2.size
         simp only [World.size_alloc] at hq2
         clear hb hn2 hm2 ht2 hbel2 hrd hsb hlc))
    | (go_at_call 27
       go_must (
         (refine ((by rw [HL0.out]; rw [HL0.out] at HRD; exact unmJ w2 w2.heap.size w1.heap.size cs.length N (some ⟨g, 0, none⟩) hd tot es l HN.out hl HF.out HE.out HWF.out HRD.out HM2.out.1 HM2.out.2 (Nat.le_refl _) HSB.out : Calls Tryd.prog 27 #[.pointer (some ⟨w1.heap.size, 0, none⟩), .slice (some ⟨g, 0, none⟩) L0 cs.length] w2 _)).mono ?_)
         rintro e w3 ⟨A3, c3, b, D, rfl, hl3, hm3, hr3, hs3, hown3, hD3, hb3, hg3⟩
         obtain ⟨m, hm⟩ : ∃ m, m = tot.length := ⟨_, rfl⟩
         have s3 := hs3.cell 0
         simp only [List.getElem?_cons_zero] at s3
         have hq3 := hg3.size
         have HBEL3 : Hid (Below w.heap.size w w3) := HBEL2.out.grown hg3 (by omega) (fun j hj => by cases hj; omega)
         have HR3 := Lib.hid hr3
         have HOWN3 := Lib.hid hown3
         have HD3 := Lib.hid hD3
         clear hr3 hs3 hown3 hD3 hg3 hl3 hm3 hm))
    | (go_at_call 28
       go_must (
         (refine (sliceJ w3 b N D l HOWN3.out HD3.out (by rw [← HN.out]; exact hl)).mono ?_)
         rintro e w4 ⟨out, g4, c4, hso, rfl, hown4, hbel4⟩
         obtain ⟨k4, hk4⟩ : ∃ k4, k4 = out.length := ⟨_, rfl⟩
         rw [← hk4] at hown4 ⊢
         have hk5 : k4 ≤ 1000 := by have := hso.2.2; have := HN.out; omega
         have HSO := Lib.hid hso
         have HK4 := Lib.hid hk4
         have HR4 : Hid (Reads w4 w4.heap.size 1 (some ⟨g4, 0, none⟩) k4 (out.map (Value.int .i64))) := Reads.of_own hown4
         have HBEL4 : Hid (Below w.heap.size w w4) := HBEL3.out.trans (hbel4.mono (by omega))
         have HT4 : Hid (Reads w4 w3.heap.size 1 A3 tot.length (bs tot)) := (HR3.out.more hq3).below hbel4
         have hq4 := hbel4.size
         clear hown4 hbel4 hso hk4)))
  go_loopw [2, 23] (fun d i wr => ∃ (k : Nat) (A' : Option Addr) (c' : Nat), k ≤ k4 ∧ i = .int .i64 (k : Nat) ∧ d = .slice A' k c' ∧ Hid (wr.ownsRow w4.heap.size 2 1 (.slice A' k c') k ((out.take k).map (Value.int .i64)) ∧ Below w4.heap.size w4 wr)) (fun _ i _ => k4 - (intOf i).toNat)
  case atStart => exact ⟨0, none, 0, Nat.zero_le _, rfl, rfl, World.ownsRow_nil _ _ _ _, Below.refl _ _⟩
  case round =>
    obtain ⟨k, A', c', hk, rfl, rfl, hst⟩ := hrel
    by_cases hlt : k < k4
    · have dk : decide ((k : Int) < (k4 : Int)) = true := decide_eq_true (by omega)
      obtain ⟨ad, hA, hadB, hkl, hcell0⟩ := HR4.out.list hlt
      cases hA
      have hcell1 : wr.cell? ((⟨g4, 0, none⟩ : Addr).add k) = some (.int .i64 (out.getD k 0)) := (hst.out.2.cell (by rw [block_of_add]; exact hadB)).trans hcell0
      have hcell : wr.cell? ⟨g4, k, none⟩ = some (.int .i64 (out.getD k 0)) := by rwa [add_lit, Nat.zero_add] at hcell1
      obtain ⟨x, hX⟩ : ∃ x, x = out.getD k 0 := ⟨_, rfl⟩
      rw [← hX] at hcell
      have hsn : (out.take (k + 1)).map (Value.int .i64) = (out.take k).map (Value.int .i64) ++ [.int .i64 x] := by rw [take_snocI out k hkl, List.map_append, ← hX]; rfl
      have HSN := Lib.hid hsn
      have hwz : w4.heap.size ≤ wr.heap.size := hst.out.2.size
      clear hcell0 hcell1 hsn hX
      go_wp2_with (
        (at_builtin)
        go_must (
          (refine wpList_append_any _ rfl (.tmp 27) (.tmp 29) 45 rfl w4.heap.size 2 i0 _ 1 8 Tryd.underlying45 hi0 hz0 hz1 hz2 rfl (by omega) (.slice A' k c') k _ rfl (hst.out.1.alloc _) (wr.heap.size + 1) _ 1 1 [.int .i64 x] rfl (reads_oneP _ _ _) (by intro u hu; rw [List.mem_singleton] at hu; subst hu; rfl) (by simp only [maxLen]; omega) (by omega) (by simp; omega) ?_)
          intro v1 w1' hown1 hg1 hat1
          obtain ⟨A1', c1', rfl⟩ := own_formS hown1
          have HO1 := Lib.hid hown1
          have HG1 := Lib.hid hg1
          clear hown1 hg1 hat1))
      go_roundw
      case rel =>
        refine ⟨k + 1, A1', c1', by omega, by go_num, by first | trivial | rfl, ?_, ?_⟩
        · rw [HSN.out]; exact HO1.out
        · exact (hst.out.2.alloc hwz _).grown HG1.out (by simp; omega) (fun j hj => (hst.out.1.lt j hj).1)
      case measure => simp [intOf]; omega
    · obtain rfl : k = k4 := by omega
      have dk : decide ((k : Int) < (k : Int)) = false := decide_eq_false (by omega)
      have hbr : Below w.heap.size w wr := HBEL4.out.trans (hst.out.2.mono (by omega))
      have hown := hst.out.1
      rw [HK4.out, List.take_length, ← HK4.out] at hown
      have hc5 := copied_b wr A3 c3 tot ((HT4.out.below (hst.out.2.mono (by omega))).more (by have := hst.out.2.size; omega)) (by omega)
      have HC5 := Lib.hid hc5
      have HBR := Lib.hid hbr
      have hq := hbr.size
      have HOWN := Lib.hid hown
      have hwz : w4.heap.size ≤ wr.heap.size := hst.out.2.size
      clear hbr hc5 hown hst
      go_wp2_with (
        (go_at_call 19)
        go_must (
          (refine HC5.out.mono ?_)
          rintro e w6 ⟨g6, cs6, rfl, hb6, hn6, hm6, ht6, hg6, hbel6⟩
          have HR6 := Lib.hid (bs_reads hb6 hn6 ht6)
          have HBEL6 := Lib.hid hbel6
          clear hb6 hn6 hm6 ht6 hbel6))
      ((try simp only [Exit.inBlock, Exit.then]); refine bodyPost_ret (results_tmp3Q rfl _ _ _) rfl ?_)
      refine ⟨out, A', c', some ⟨g6, 0, none⟩, cs6.length, HSO.out, by rw [← HK4.out]; rfl, ?_, HR6.out, HBR.out.trans (HBEL6.out.mono hq)⟩
      rw [← HK4.out]
      exact own_lower (own_belowS2 HOWN.out HBEL6.out) (by omega)
end Go.Proofs.YtfhaddnacdjpoaaDoor
