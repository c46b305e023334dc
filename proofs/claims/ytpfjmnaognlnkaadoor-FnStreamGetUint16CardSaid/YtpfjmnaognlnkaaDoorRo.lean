/- The laws FnStreamGetInt16, FnStreamGetUint16: the walks. PRINTED by wip/genrn.py. -/
import Derived.Test.YtpfjmnaognlnkaaDoorRt
import Derived.Test.YtpfjmnaognlnkaaDoorRn
namespace Go.Proofs.YtpfjmnaognlnkaaDoor
open Go.RowKit
set_option linter.unusedVariables false

theorem put1_of {gf m : Nat} {F G : List Int → Prop} {W : World} {e : Ending} {W' : World} (h : PutH gf false F W e W') (hF : ∀ enc, F enc → G enc ∧ enc.length ≤ m) : Put1 gf m G W e W' := by
  obtain ⟨enc, A, c, st, rfl, hf, hown, hb, hg⟩ := h
  obtain ⟨A9, c9, hv9, h8, h9⟩ := own_formR hown
  injection hv9 with e1 e2 e3
  subst e3
  exact ⟨enc, A, c, st, rfl, (hF enc hf).1, (hF enc hf).2, h8, h9, Reads.of_own hown, hb, hg⟩

theorem PutPack_i16 (W : World) (gf : Nat) (st : Int) (x : Int) (hp : -32768 ≤ x ∧ x ≤ 32767) (hb : Blk W gf 50 [.int .u64 st, .bool false]) :
    Calls Tryd.prog 14 #[.agg #[.int .i64 2, .int .u64 (IntKind.u64.wrap x), .string ⟨#[]⟩, .int .i64 0, .slice none 0 0], .pointer (some ⟨gf, 0, none⟩)] W (Put1 gf 9 (FrmReadInt16 x) W) := by
  obtain ⟨h0, h1⟩ := hp
  have hF : ∀ enc, IntF x enc → FrmReadInt16 x enc ∧ enc.length ≤ 9 := fun enc h => ⟨⟨h, h0, h1⟩, (intF_len h).2⟩
  by_cases hn : x < 0
  · exact (PutPack_int_neg W gf st x _ false (by rw [IntKind.wrap_u64]; omega) (by omega) hn hb).mono fun _ _ h => put1_of h hF
  · exact (PutPack_int_pos W gf st x _ false (by rw [IntKind.wrap_u64]; omega) (by omega) (by omega) hb).mono fun _ _ h => put1_of h hF

set_option maxHeartbeats 2000000 in
set_option maxRecDepth 100000 in
theorem sameItems_int16 (w : World) (A A2 : Option Addr) (c c2 : Nat) (l : List Int) (h : Reads w w.heap.size 1 A l.length (l.map fun x => Value.int .i16 x)) (h2 : Reads w w.heap.size 1 A2 l.length (l.map fun x => Value.int .i16 x)) (hl : l.length ≤ 100) :
    Calls Tryd.prog 8 #[.slice A l.length c, .slice A2 l.length c2] w fun e w' => e = .returned (.bool true) ∧ Below w.heap.size w w' := by
  have H := Lib.hid h
  have H2 := Lib.hid h2
  clear h h2
  go_enter Tryd.func8, Tryd.ntmps8
  go_wp2
  go_loopw [13] (fun i wr => ∃ k : Nat, k ≤ l.length ∧ i = .int .i64 k ∧ Hid (Below w.heap.size w wr)) (fun i _ => l.length - (intOf i).toNat)
  case atStart => exact ⟨0, Nat.zero_le _, rfl, Below.refl _ _⟩
  case round =>
    obtain ⟨k, hk, rfl, hrest⟩ := hrel
    by_cases hlt : k < l.length
    · obtain ⟨ad, u, hA, hb, hu, hc⟩ := H.out.at_ hlt
      obtain ⟨ad2, u2, hA2, hb2, hu2, hc2⟩ := H2.out.at_ hlt
      have hv : u = Value.int .i16 l[k] := by
        have := hu.symm.trans (show (l.map fun x => Value.int .i16 x)[k]? = some (Value.int .i16 l[k]) by rw [List.getElem?_map, List.getElem?_eq_getElem hlt]; rfl)
        injection this
      have hv2 : u2 = Value.int .i16 l[k] := by
        have := hu2.symm.trans (show (l.map fun x => Value.int .i16 x)[k]? = some (Value.int .i16 l[k]) by rw [List.getElem?_map, List.getElem?_eq_getElem hlt]; rfl)
        injection this
      subst hA hA2 hv hv2
      generalize l[k] = x at *
      have q1 : wr.cell? (ad.add k) = some (Value.int .i16 x) := (hrest.out.cell (by rw [block_of_add]; exact hb)).trans hc
      have q2 : wr.cell? (ad2.add k) = some (Value.int .i16 x) := (hrest.out.cell (by rw [block_of_add]; exact hb2)).trans hc2
      have hk0 : (0 : Int) ≤ (k : Int) := by omega
      have hk1 : (k : Int) < (l.length : Int) := by omega
      clear hu hu2 hc hc2
      go_wp2
      go_quiet (fail)
      go_wp2
      go_roundw
      case rel => exact ⟨k + 1, by omega, by go_num, below_drewN hrest.out _⟩
      case measure => simp [intOf]; omega
    · obtain rfl : k = l.length := by omega
      go_wp2
      go_ret
      exact ⟨rfl, hrest.out⟩

theorem StreamGetInt16_wone (w : World) : Calls Tryd.prog 6 #[.slice (some ⟨w.heap.size, 0, none⟩) 1 1, .int .u64 0] (w.alloc (.cells #[.int .i64 2, .int .u64 5, .string ⟨#[]⟩, .int .i64 0, .slice none 0 0] 31)) fun e w' =>
    ∃ ds d A' c', d = ds.flatten ∧ e = .returned (.slice A' d.length c') ∧ Frms FrmReadInt16 [5] ds ∧ Reads w' w'.heap.size 1 A' d.length (bs d) ∧ d.length ≤ 9 * 1 ∧ d.length ≤ c' ∧ c' ≤ maxLen ∧ Below (w.heap.size + 1) (w.alloc (.cells #[.int .i64 2, .int .u64 5, .string ⟨#[]⟩, .int .i64 0, .slice none 0 0] 31)) w' := by
  have e1 : (w.alloc (.cells #[.int .i64 2, .int .u64 5, .string ⟨#[]⟩, .int .i64 0, .slice none 0 0] 31)).heap.size = w.heap.size + 1 := by simp
  have h := allWritten_calls FrmReadInt16 (fun x => -32768 ≤ x ∧ x ≤ 32767) (fun x => 2) (fun x => IntKind.u64.wrap x) 9 (by omega) PutPack_i16 (w.alloc (.cells #[.int .i64 2, .int .u64 5, .string ⟨#[]⟩, .int .i64 0, .slice none 0 0] 31)) (some ⟨w.heap.size, 0, none⟩) 1 0 [5] (by rw [e1]; exact wantsA_one w 5 (fun x => 2) (fun x => IntKind.u64.wrap x)) (by simp) (fun x hx => (by have hh : x = 5 := List.mem_singleton.1 hx; rw [hh]; exact And.intro (by omega) (by omega)))
  refine h.mono ?_
  rintro e w' ⟨ds, d, A', c', h1, h2, h3, h4, h5, h6, h7, h8⟩
  refine ⟨ds, d, A', c', h1, h2, h3, h4, h5, h6, h7, ?_⟩
  rw [← e1]
  exact h8
theorem StreamGetInt16_one (w : World) (A : Option Addr) (c : Nat) (ds : List (List Int)) (d : List Int) (hdd : d = ds.flatten) (hd : Frms FrmReadInt16 [5] ds) (h : Reads w w.heap.size 1 A d.length (bs d)) (hm : d.length ≤ 9 * 1) :
    Calls Tryd.prog 5 #[.slice A d.length c, .int .i64 1, .int .i64 100, .int .i64 1] w fun e w' => ∃ ad c', e = .returned (.tuple #[.slice (some ad) 1 c', .bool true]) ∧ w'.cell? (ad.add 0) = some (Value.int .i16 5) ∧ w'.cell? ad = some (Value.int .i16 5) ∧ Below w.heap.size w w' := by
  refine (StreamGetInt16_calls w A c 100 1 [5] ds d hdd hd h (by omega) (by omega) (by omega) (by omega) (by simp) (by omega)).mono ?_
  rintro e w' ⟨A', c', he, hr, _, _, hb⟩
  obtain ⟨ad, rfl, _, hc⟩ := hr.2 (by simp)
  have q := hc 0 (Value.int .i16 5) rfl
  refine ⟨ad, c', he, q, ?_, hb⟩
  simpa [Addr.add] using q

set_option maxHeartbeats 4000000 in
set_option maxRecDepth 100000 in
theorem FnStreamGetInt16_walk (w : World) (A : Option Addr) (c : Nat) (st b ch : Int) (l : List Int) (h : Reads w w.heap.size 1 A l.length (l.map fun x => Value.int .i16 x)) (hx : ∀ x ∈ l, -32768 ≤ x ∧ x ≤ 32767) :
    Calls Tryd.prog 3 #[.slice A l.length c, .int .u64 st, .int .i64 b, .int .i64 ch] w fun e w' => e = .returned (.bool true) ∧ Below w.heap.size w w' := by
  have H := Lib.hid h
  have HX := Lib.hid hx
  clear h hx
  by_cases hz : 2147483647 < l.length
  · have hd : decide ((2147483647 : Int) < (l.length : Int)) = true := by simp; omega
    go_enter Tryd.func3, Tryd.ntmps3
    go_wp2
    go_ret
    exact ⟨rfl, Below.refl _ _⟩
  have hd : decide ((2147483647 : Int) < (l.length : Int)) = false := by simp; omega
  by_cases hb : b < 18 ∨ 65536 < b ∨ ch < 1 ∨ 65536 < ch
  · have HB := Lib.hid hb
    clear hb
    go_enter Tryd.func3, Tryd.ntmps3
    go_wp2_with (first
      | (go_at_call 6
         go_must (
           (refine (StreamGetInt16_wone w).mono ?_)
           rintro e w1 ⟨ds1, d1, A1, c1, hd1, rfl, hf1, hr1, hm1, hc1, hx1, hbel1⟩
           have HR1 := Lib.hid hr1
           have HD1 := Lib.hid hd1
           have HF1 := Lib.hid hf1
           have HBEL1 : Hid (Below w.heap.size w w1) := ((Below.refl _ w).alloc (Nat.le_refl _) _).trans (hbel1.mono (by simp))
           clear hr1 hf1 hd1 hbel1))
      | (go_at_call 5
         go_must (
           (refine (StreamGetInt16_one w1 A1 c1 ds1 d1 HD1.out HF1.out HR1.out hm1).mono ?_)
           rintro e w2 ⟨ad2, c2, rfl, hc20, hc21, hbel2⟩
           have HBEL2 : Hid (Below w.heap.size w w2) := HBEL1.out.trans (hbel2.mono HBEL1.out.size)
           clear hbel2))
      | (go_at_call 7
         go_must (
           (refine (bufs_no _ b ch HB.out).mono ?_)
           rintro e w' ⟨rfl, rfl⟩)))
    go_ret
    exact ⟨rfl, HBEL2.out⟩
  have hb0 : 18 ≤ b := by omega
  have hb1 : b ≤ 65536 := by omega
  have hh0 : 1 ≤ ch := by omega
  have hh1 : ch ≤ 65536 := by omega
  clear hb
  by_cases hn : 100 < l.length
  · have hd2 : decide ((100 : Int) < (l.length : Int)) = true := by simp; omega
    go_enter Tryd.func3, Tryd.ntmps3
    go_wp2_with (first
      | (go_at_call 6
         go_must (
           (refine (StreamGetInt16_wone w).mono ?_)
           rintro e w1 ⟨ds1, d1, A1, c1, hd1, rfl, hf1, hr1, hm1, hc1, hx1, hbel1⟩
           have HR1 := Lib.hid hr1
           have HD1 := Lib.hid hd1
           have HF1 := Lib.hid hf1
           have HBEL1 : Hid (Below w.heap.size w w1) := ((Below.refl _ w).alloc (Nat.le_refl _) _).trans (hbel1.mono (by simp))
           clear hr1 hf1 hd1 hbel1))
      | (go_at_call 5
         go_must (
           (refine (StreamGetInt16_one w1 A1 c1 ds1 d1 HD1.out HF1.out HR1.out hm1).mono ?_)
           rintro e w2 ⟨ad2, c2, rfl, hc20, hc21, hbel2⟩
           have HBEL2 : Hid (Below w.heap.size w w2) := HBEL1.out.trans (hbel2.mono HBEL1.out.size)
           clear hbel2))
      | (go_at_call 7
         go_must (
           (refine (bufs_yes _ b ch hb0 hb1 hh0 hh1).mono ?_)
           rintro e w' ⟨rfl, rfl⟩)))
    go_ret
    exact ⟨rfl, HBEL2.out⟩
  have hd2 : decide ((100 : Int) < (l.length : Int)) = false := by simp; omega
  obtain ⟨sz, rfl⟩ : ∃ sz : Nat, b = sz := ⟨b.toNat, by omega⟩
  obtain ⟨i0, hi0, hz0, hz1, hz2⟩ := info_parts infoPackA
  go_enter Tryd.func3, Tryd.ntmps3
  go_wp2_with (first
      | (go_at_call 6
         go_must (
           (refine (StreamGetInt16_wone w).mono ?_)
           rintro e w1 ⟨ds1, d1, A1, c1, hd1, rfl, hf1, hr1, hm1, hc1, hx1, hbel1⟩
           have HR1 := Lib.hid hr1
           have HD1 := Lib.hid hd1
           have HF1 := Lib.hid hf1
           have HBEL1 : Hid (Below w.heap.size w w1) := ((Below.refl _ w).alloc (Nat.le_refl _) _).trans (hbel1.mono (by simp))
           clear hr1 hf1 hd1 hbel1))
      | (go_at_call 5
         go_must (
           (refine (StreamGetInt16_one w1 A1 c1 ds1 d1 HD1.out HF1.out HR1.out hm1).mono ?_)
           rintro e w2 ⟨ad2, c2, rfl, hc20, hc21, hbel2⟩
           have HBEL2 : Hid (Below w.heap.size w w2) := HBEL1.out.trans (hbel2.mono HBEL1.out.size)
           clear hbel2))
      | (go_at_call 7
         go_must (
           (refine (bufs_yes _ sz ch hb0 hb1 hh0 hh1).mono ?_)
           rintro e w' ⟨rfl, rfl⟩)))
  clear hc20 hc21
  go_loopw [13, 56] (fun d i wr => ∃ (k : Nat) (A' : Option Addr) (c' : Nat), k ≤ l.length ∧ i = .int .i64 k ∧ d = .slice A' k c' ∧ Hid (wr.ownsRow w.heap.size 31 5 (.slice A' k c') k ((l.take k).flatMap fun x => c5A (2) (IntKind.u64.wrap x)) ∧ Below w.heap.size w wr)) (fun _ i _ => l.length - (intOf i).toNat)
  case atStart => exact ⟨0, none, 0, Nat.zero_le _, rfl, rfl, ⟨by simp, .inl ⟨rfl, rfl⟩⟩, HBEL2.out⟩
  case round =>
    obtain ⟨k, A', c', hk, rfl, rfl, hrest⟩ := hrel
    by_cases hlt : k < l.length
    · obtain ⟨ad, u, hA, hadB, hu, hcell0⟩ := H.out.at_ hlt
      have hv : u = Value.int .i16 l[k] := by
        have := hu.symm.trans (show (l.map fun x => Value.int .i16 x)[k]? = some (Value.int .i16 l[k]) by rw [List.getElem?_map, List.getElem?_eq_getElem hlt]; rfl)
        injection this
      subst hA hv
      have hcell : wr.cell? (ad.add k) = some (Value.int .i16 l[k]) := (hrest.out.2.cell (by rw [block_of_add]; exact hadB)).trans hcell0
      have hsn : (l.take (k + 1)).flatMap (fun x => c5A (2) (IntKind.u64.wrap x)) = (l.take k).flatMap (fun x => c5A (2) (IntKind.u64.wrap x)) ++ (fun x => c5A (2) (IntKind.u64.wrap x)) l[k] := by
        rw [List.take_succ_eq_append_getElem hlt, List.flatMap_append]; simp
      obtain ⟨hu0, hu1⟩ := HX.out l[k] (List.getElem_mem hlt)
      generalize l[k] = x at *
      have HSN := Lib.hid hsn
      clear hcell0 hsn hu

      have hwz : w.heap.size ≤ wr.heap.size := hrest.out.2.size
      go_wp2_with (first
        | ((at_builtin)
           go_must (
            (refine wpList_append_any _ rfl (.tmp 60) (.tmp 65) 29 rfl w.heap.size 31 i0 _ 5 64 Tryd.underlying29 hi0 hz0 hz1 hz2 rfl (by omega) (.slice A' k c') k _ rfl (hrest.out.1.alloc _) (wr.heap.size + 1) _ 1 1 (c5A (2) (IntKind.u64.wrap x)) rfl (reads_fiveA _ _ _ _) (c5A_one _ _) (by simp only [maxLen]; omega) (by omega) (by simp; omega) ?_)
            intro v1 w1' hown1 hg1 hat1
            obtain ⟨A1', c1', rfl, _, _⟩ := own_formR hown1
            have HO1 := Lib.hid hown1
            have HG1 := Lib.hid hg1
            clear hown1 hg1 hat1)))
      go_roundw
      case rel =>
        refine ⟨k + 1, A1', c1', by omega, by go_num, rfl, ?_, ?_⟩
        · rw [HSN.out]; exact HO1.out
        · exact (hrest.out.2.alloc hwz _).grown HG1.out (by simp; omega) (fun j hj => (hrest.out.1.lt j hj).1)
      case measure => simp [intOf]; omega
    · obtain rfl : k = l.length := by omega
      have how := hrest.out.1
      rw [List.take_length] at how
      have HOW := Lib.hid how
      have HBR := Lib.hid hrest.out.2
      clear hrest how
      go_wp2_with (first
        | (go_at_call 6
           go_must (
             (refine (allWritten_calls FrmReadInt16 (fun x => -32768 ≤ x ∧ x ≤ 32767) (fun x => 2) (fun x => IntKind.u64.wrap x) 9 (by omega) PutPack_i16 wr A' c' st l (wantsA_own HOW.out) (by omega) (HX.out)).mono ?_)
             rintro e w3 ⟨ds3, d3, A3, c3, hd3, rfl, hf3, hr3, hm3, hc3, hx3, hbel3⟩
             have HR3 := Lib.hid hr3
             have HD3 := Lib.hid hd3
             have HF3 := Lib.hid hf3
             have HBEL3 : Hid (Below w.heap.size w w3) := HBR.out.trans (hbel3.mono HBR.out.size)
             have hm3' : d3.length ≤ 1000000 := Nat.le_trans hm3 (Nat.le_trans (Nat.mul_le_mul_left _ (show l.length ≤ 100 by omega)) (by omega))
             clear hr3 hf3 hd3 hbel3 hm3))
        | (go_at_call 5
           go_must (
             (refine (StreamGetInt16_calls w3 A3 c3 sz ch l ds3 d3 HD3.out HF3.out HR3.out (by omega) (by omega) hh0 hh1 (by omega) hm3').mono ?_)
             rintro e w4 ⟨A4, c4, rfl, hr4, hc4, hx4, hbel4⟩
             rw [List.length_map] at hr4 hc4
             simp only [List.length_map]
             have HR4 := Lib.hid hr4
             have HBEL4 : Hid (Below w.heap.size w w4) := HBEL3.out.trans (hbel4.mono HBEL3.out.size)
             clear hr4 hbel4))
        | (go_at_call 8
           go_must (
             (refine (sameItems_int16 w4 A4 A c4 c l HR4.out ((H.out.below HBEL4.out).more HBEL4.out.size) (by omega)).mono ?_)
             rintro e w5 ⟨rfl, hbel5⟩
             have HBEL5 : Hid (Below w.heap.size w w5) := HBEL4.out.trans (hbel5.mono HBEL4.out.size)
             clear hbel5)))
      go_ret
      exact ⟨rfl, HBEL5.out⟩

theorem PutPack_u16 (W : World) (gf : Nat) (st : Int) (x : Int) (hp : 0 ≤ x ∧ x ≤ 65535) (hb : Blk W gf 50 [.int .u64 st, .bool false]) :
    Calls Tryd.prog 14 #[.agg #[.int .i64 3, .int .u64 x, .string ⟨#[]⟩, .int .i64 0, .slice none 0 0], .pointer (some ⟨gf, 0, none⟩)] W (Put1 gf 9 (FrmReadUint16 x) W) := by
  obtain ⟨h0, h1⟩ := hp
  have hF : ∀ enc, IntF x enc → FrmReadUint16 x enc ∧ enc.length ≤ 9 := fun enc h => ⟨⟨h, h0, h1⟩, (intF_len h).2⟩
  exact (PutPack_uint W gf st x _ false rfl h0 (by omega) hb).mono fun _ _ h => put1_of h hF

set_option maxHeartbeats 2000000 in
set_option maxRecDepth 100000 in
theorem sameItems_uint16 (w : World) (A A2 : Option Addr) (c c2 : Nat) (l : List Int) (h : Reads w w.heap.size 1 A l.length (l.map fun x => Value.int .u16 x)) (h2 : Reads w w.heap.size 1 A2 l.length (l.map fun x => Value.int .u16 x)) (hl : l.length ≤ 100) :
    Calls Tryd.prog 10 #[.slice A l.length c, .slice A2 l.length c2] w fun e w' => e = .returned (.bool true) ∧ Below w.heap.size w w' := by
  have H := Lib.hid h
  have H2 := Lib.hid h2
  clear h h2
  go_enter Tryd.func10, Tryd.ntmps10
  go_wp2
  go_loopw [13] (fun i wr => ∃ k : Nat, k ≤ l.length ∧ i = .int .i64 k ∧ Hid (Below w.heap.size w wr)) (fun i _ => l.length - (intOf i).toNat)
  case atStart => exact ⟨0, Nat.zero_le _, rfl, Below.refl _ _⟩
  case round =>
    obtain ⟨k, hk, rfl, hrest⟩ := hrel
    by_cases hlt : k < l.length
    · obtain ⟨ad, u, hA, hb, hu, hc⟩ := H.out.at_ hlt
      obtain ⟨ad2, u2, hA2, hb2, hu2, hc2⟩ := H2.out.at_ hlt
      have hv : u = Value.int .u16 l[k] := by
        have := hu.symm.trans (show (l.map fun x => Value.int .u16 x)[k]? = some (Value.int .u16 l[k]) by rw [List.getElem?_map, List.getElem?_eq_getElem hlt]; rfl)
        injection this
      have hv2 : u2 = Value.int .u16 l[k] := by
        have := hu2.symm.trans (show (l.map fun x => Value.int .u16 x)[k]? = some (Value.int .u16 l[k]) by rw [List.getElem?_map, List.getElem?_eq_getElem hlt]; rfl)
        injection this
      subst hA hA2 hv hv2
      generalize l[k] = x at *
      have q1 : wr.cell? (ad.add k) = some (Value.int .u16 x) := (hrest.out.cell (by rw [block_of_add]; exact hb)).trans hc
      have q2 : wr.cell? (ad2.add k) = some (Value.int .u16 x) := (hrest.out.cell (by rw [block_of_add]; exact hb2)).trans hc2
      have hk0 : (0 : Int) ≤ (k : Int) := by omega
      have hk1 : (k : Int) < (l.length : Int) := by omega
      clear hu hu2 hc hc2
      go_wp2
      go_quiet (fail)
      go_wp2
      go_roundw
      case rel => exact ⟨k + 1, by omega, by go_num, below_drewN hrest.out _⟩
      case measure => simp [intOf]; omega
    · obtain rfl : k = l.length := by omega
      go_wp2
      go_ret
      exact ⟨rfl, hrest.out⟩

theorem StreamGetUint16_wone (w : World) : Calls Tryd.prog 6 #[.slice (some ⟨w.heap.size, 0, none⟩) 1 1, .int .u64 0] (w.alloc (.cells #[.int .i64 3, .int .u64 5, .string ⟨#[]⟩, .int .i64 0, .slice none 0 0] 31)) fun e w' =>
    ∃ ds d A' c', d = ds.flatten ∧ e = .returned (.slice A' d.length c') ∧ Frms FrmReadUint16 [5] ds ∧ Reads w' w'.heap.size 1 A' d.length (bs d) ∧ d.length ≤ 9 * 1 ∧ d.length ≤ c' ∧ c' ≤ maxLen ∧ Below (w.heap.size + 1) (w.alloc (.cells #[.int .i64 3, .int .u64 5, .string ⟨#[]⟩, .int .i64 0, .slice none 0 0] 31)) w' := by
  have e1 : (w.alloc (.cells #[.int .i64 3, .int .u64 5, .string ⟨#[]⟩, .int .i64 0, .slice none 0 0] 31)).heap.size = w.heap.size + 1 := by simp
  have h := allWritten_calls FrmReadUint16 (fun x => 0 ≤ x ∧ x ≤ 65535) (fun x => 3) (fun x => x) 9 (by omega) PutPack_u16 (w.alloc (.cells #[.int .i64 3, .int .u64 5, .string ⟨#[]⟩, .int .i64 0, .slice none 0 0] 31)) (some ⟨w.heap.size, 0, none⟩) 1 0 [5] (by rw [e1]; exact wantsA_one w 5 (fun x => 3) (fun x => x)) (by simp) (fun x hx => (by have hh : x = 5 := List.mem_singleton.1 hx; rw [hh]; exact And.intro (by omega) (by omega)))
  refine h.mono ?_
  rintro e w' ⟨ds, d, A', c', h1, h2, h3, h4, h5, h6, h7, h8⟩
  refine ⟨ds, d, A', c', h1, h2, h3, h4, h5, h6, h7, ?_⟩
  rw [← e1]
  exact h8
theorem StreamGetUint16_one (w : World) (A : Option Addr) (c : Nat) (ds : List (List Int)) (d : List Int) (hdd : d = ds.flatten) (hd : Frms FrmReadUint16 [5] ds) (h : Reads w w.heap.size 1 A d.length (bs d)) (hm : d.length ≤ 9 * 1) :
    Calls Tryd.prog 9 #[.slice A d.length c, .int .i64 1, .int .i64 100, .int .i64 1] w fun e w' => ∃ ad c', e = .returned (.tuple #[.slice (some ad) 1 c', .bool true]) ∧ w'.cell? (ad.add 0) = some (Value.int .u16 5) ∧ w'.cell? ad = some (Value.int .u16 5) ∧ Below w.heap.size w w' := by
  refine (StreamGetUint16_calls w A c 100 1 [5] ds d hdd hd h (by omega) (by omega) (by omega) (by omega) (by simp) (by omega)).mono ?_
  rintro e w' ⟨A', c', he, hr, _, _, hb⟩
  obtain ⟨ad, rfl, _, hc⟩ := hr.2 (by simp)
  have q := hc 0 (Value.int .u16 5) rfl
  refine ⟨ad, c', he, q, ?_, hb⟩
  simpa [Addr.add] using q

set_option maxHeartbeats 4000000 in
set_option maxRecDepth 100000 in
theorem FnStreamGetUint16_walk (w : World) (A : Option Addr) (c : Nat) (st b ch : Int) (l : List Int) (h : Reads w w.heap.size 1 A l.length (l.map fun x => Value.int .u16 x)) (hx : ∀ x ∈ l, 0 ≤ x ∧ x ≤ 65535) :
    Calls Tryd.prog 4 #[.slice A l.length c, .int .u64 st, .int .i64 b, .int .i64 ch] w fun e w' => e = .returned (.bool true) ∧ Below w.heap.size w w' := by
  have H := Lib.hid h
  have HX := Lib.hid hx
  clear h hx
  by_cases hz : 2147483647 < l.length
  · have hd : decide ((2147483647 : Int) < (l.length : Int)) = true := by simp; omega
    go_enter Tryd.func4, Tryd.ntmps4
    go_wp2
    go_ret
    exact ⟨rfl, Below.refl _ _⟩
  have hd : decide ((2147483647 : Int) < (l.length : Int)) = false := by simp; omega
  by_cases hb : b < 18 ∨ 65536 < b ∨ ch < 1 ∨ 65536 < ch
  · have HB := Lib.hid hb
    clear hb
    go_enter Tryd.func4, Tryd.ntmps4
    go_wp2_with (first
      | (go_at_call 6
         go_must (
           (refine (StreamGetUint16_wone w).mono ?_)
           rintro e w1 ⟨ds1, d1, A1, c1, hd1, rfl, hf1, hr1, hm1, hc1, hx1, hbel1⟩
           have HR1 := Lib.hid hr1
           have HD1 := Lib.hid hd1
           have HF1 := Lib.hid hf1
           have HBEL1 : Hid (Below w.heap.size w w1) := ((Below.refl _ w).alloc (Nat.le_refl _) _).trans (hbel1.mono (by simp))
           clear hr1 hf1 hd1 hbel1))
      | (go_at_call 9
         go_must (
           (refine (StreamGetUint16_one w1 A1 c1 ds1 d1 HD1.out HF1.out HR1.out hm1).mono ?_)
           rintro e w2 ⟨ad2, c2, rfl, hc20, hc21, hbel2⟩
           have HBEL2 : Hid (Below w.heap.size w w2) := HBEL1.out.trans (hbel2.mono HBEL1.out.size)
           clear hbel2))
      | (go_at_call 7
         go_must (
           (refine (bufs_no _ b ch HB.out).mono ?_)
           rintro e w' ⟨rfl, rfl⟩)))
    go_ret
    exact ⟨rfl, HBEL2.out⟩
  have hb0 : 18 ≤ b := by omega
  have hb1 : b ≤ 65536 := by omega
  have hh0 : 1 ≤ ch := by omega
  have hh1 : ch ≤ 65536 := by omega
  clear hb
  by_cases hn : 100 < l.length
  · have hd2 : decide ((100 : Int) < (l.length : Int)) = true := by simp; omega
    go_enter Tryd.func4, Tryd.ntmps4
    go_wp2_with (first
      | (go_at_call 6
         go_must (
           (refine (StreamGetUint16_wone w).mono ?_)
           rintro e w1 ⟨ds1, d1, A1, c1, hd1, rfl, hf1, hr1, hm1, hc1, hx1, hbel1⟩
           have HR1 := Lib.hid hr1
           have HD1 := Lib.hid hd1
           have HF1 := Lib.hid hf1
           have HBEL1 : Hid (Below w.heap.size w w1) := ((Below.refl _ w).alloc (Nat.le_refl _) _).trans (hbel1.mono (by simp))
           clear hr1 hf1 hd1 hbel1))
      | (go_at_call 9
         go_must (
           (refine (StreamGetUint16_one w1 A1 c1 ds1 d1 HD1.out HF1.out HR1.out hm1).mono ?_)
           rintro e w2 ⟨ad2, c2, rfl, hc20, hc21, hbel2⟩
           have HBEL2 : Hid (Below w.heap.size w w2) := HBEL1.out.trans (hbel2.mono HBEL1.out.size)
           clear hbel2))
      | (go_at_call 7
         go_must (
           (refine (bufs_yes _ b ch hb0 hb1 hh0 hh1).mono ?_)
           rintro e w' ⟨rfl, rfl⟩)))
    go_ret
    exact ⟨rfl, HBEL2.out⟩
  have hd2 : decide ((100 : Int) < (l.length : Int)) = false := by simp; omega
  obtain ⟨sz, rfl⟩ : ∃ sz : Nat, b = sz := ⟨b.toNat, by omega⟩
  obtain ⟨i0, hi0, hz0, hz1, hz2⟩ := info_parts infoPackA
  go_enter Tryd.func4, Tryd.ntmps4
  go_wp2_with (first
      | (go_at_call 6
         go_must (
           (refine (StreamGetUint16_wone w).mono ?_)
           rintro e w1 ⟨ds1, d1, A1, c1, hd1, rfl, hf1, hr1, hm1, hc1, hx1, hbel1⟩
           have HR1 := Lib.hid hr1
           have HD1 := Lib.hid hd1
           have HF1 := Lib.hid hf1
           have HBEL1 : Hid (Below w.heap.size w w1) := ((Below.refl _ w).alloc (Nat.le_refl _) _).trans (hbel1.mono (by simp))
           clear hr1 hf1 hd1 hbel1))
      | (go_at_call 9
         go_must (
           (refine (StreamGetUint16_one w1 A1 c1 ds1 d1 HD1.out HF1.out HR1.out hm1).mono ?_)
           rintro e w2 ⟨ad2, c2, rfl, hc20, hc21, hbel2⟩
           have HBEL2 : Hid (Below w.heap.size w w2) := HBEL1.out.trans (hbel2.mono HBEL1.out.size)
           clear hbel2))
      | (go_at_call 7
         go_must (
           (refine (bufs_yes _ sz ch hb0 hb1 hh0 hh1).mono ?_)
           rintro e w' ⟨rfl, rfl⟩)))
  clear hc20 hc21
  go_loopw [13, 55] (fun d i wr => ∃ (k : Nat) (A' : Option Addr) (c' : Nat), k ≤ l.length ∧ i = .int .i64 k ∧ d = .slice A' k c' ∧ Hid (wr.ownsRow w.heap.size 31 5 (.slice A' k c') k ((l.take k).flatMap fun x => c5A (3) (x)) ∧ Below w.heap.size w wr)) (fun _ i _ => l.length - (intOf i).toNat)
  case atStart => exact ⟨0, none, 0, Nat.zero_le _, rfl, rfl, ⟨by simp, .inl ⟨rfl, rfl⟩⟩, HBEL2.out⟩
  case round =>
    obtain ⟨k, A', c', hk, rfl, rfl, hrest⟩ := hrel
    by_cases hlt : k < l.length
    · obtain ⟨ad, u, hA, hadB, hu, hcell0⟩ := H.out.at_ hlt
      have hv : u = Value.int .u16 l[k] := by
        have := hu.symm.trans (show (l.map fun x => Value.int .u16 x)[k]? = some (Value.int .u16 l[k]) by rw [List.getElem?_map, List.getElem?_eq_getElem hlt]; rfl)
        injection this
      subst hA hv
      have hcell : wr.cell? (ad.add k) = some (Value.int .u16 l[k]) := (hrest.out.2.cell (by rw [block_of_add]; exact hadB)).trans hcell0
      have hsn : (l.take (k + 1)).flatMap (fun x => c5A (3) (x)) = (l.take k).flatMap (fun x => c5A (3) (x)) ++ (fun x => c5A (3) (x)) l[k] := by
        rw [List.take_succ_eq_append_getElem hlt, List.flatMap_append]; simp
      obtain ⟨hu0, hu1⟩ := HX.out l[k] (List.getElem_mem hlt)
      generalize l[k] = x at *
      have HSN := Lib.hid hsn
      clear hcell0 hsn hu

      have hwz : w.heap.size ≤ wr.heap.size := hrest.out.2.size
      go_wp2_with (first
        | ((at_builtin)
           go_must (
            (refine wpList_append_any _ rfl (.tmp 59) (.tmp 63) 29 rfl w.heap.size 31 i0 _ 5 64 Tryd.underlying29 hi0 hz0 hz1 hz2 rfl (by omega) (.slice A' k c') k _ rfl (hrest.out.1.alloc _) (wr.heap.size + 1) _ 1 1 (c5A (3) (x)) rfl (reads_fiveA _ _ _ _) (c5A_one _ _) (by simp only [maxLen]; omega) (by omega) (by simp; omega) ?_)
            intro v1 w1' hown1 hg1 hat1
            obtain ⟨A1', c1', rfl, _, _⟩ := own_formR hown1
            have HO1 := Lib.hid hown1
            have HG1 := Lib.hid hg1
            clear hown1 hg1 hat1)))
      go_roundw
      case rel =>
        refine ⟨k + 1, A1', c1', by omega, by go_num, rfl, ?_, ?_⟩
        · rw [HSN.out]; exact HO1.out
        · exact (hrest.out.2.alloc hwz _).grown HG1.out (by simp; omega) (fun j hj => (hrest.out.1.lt j hj).1)
      case measure => simp [intOf]; omega
    · obtain rfl : k = l.length := by omega
      have how := hrest.out.1
      rw [List.take_length] at how
      have HOW := Lib.hid how
      have HBR := Lib.hid hrest.out.2
      clear hrest how
      go_wp2_with (first
        | (go_at_call 6
           go_must (
             (refine (allWritten_calls FrmReadUint16 (fun x => 0 ≤ x ∧ x ≤ 65535) (fun x => 3) (fun x => x) 9 (by omega) PutPack_u16 wr A' c' st l (wantsA_own HOW.out) (by omega) (HX.out)).mono ?_)
             rintro e w3 ⟨ds3, d3, A3, c3, hd3, rfl, hf3, hr3, hm3, hc3, hx3, hbel3⟩
             have HR3 := Lib.hid hr3
             have HD3 := Lib.hid hd3
             have HF3 := Lib.hid hf3
             have HBEL3 : Hid (Below w.heap.size w w3) := HBR.out.trans (hbel3.mono HBR.out.size)
             have hm3' : d3.length ≤ 1000000 := Nat.le_trans hm3 (Nat.le_trans (Nat.mul_le_mul_left _ (show l.length ≤ 100 by omega)) (by omega))
             clear hr3 hf3 hd3 hbel3 hm3))
        | (go_at_call 9
           go_must (
             (refine (StreamGetUint16_calls w3 A3 c3 sz ch l ds3 d3 HD3.out HF3.out HR3.out (by omega) (by omega) hh0 hh1 (by omega) hm3').mono ?_)
             rintro e w4 ⟨A4, c4, rfl, hr4, hc4, hx4, hbel4⟩
             rw [List.length_map] at hr4 hc4
             simp only [List.length_map]
             have HR4 := Lib.hid hr4
             have HBEL4 : Hid (Below w.heap.size w w4) := HBEL3.out.trans (hbel4.mono HBEL3.out.size)
             clear hr4 hbel4))
        | (go_at_call 10
           go_must (
             (refine (sameItems_uint16 w4 A4 A c4 c l HR4.out ((H.out.below HBEL4.out).more HBEL4.out.size) (by omega)).mono ?_)
             rintro e w5 ⟨rfl, hbel5⟩
             have HBEL5 : Hid (Below w.heap.size w w5) := HBEL4.out.trans (hbel5.mono HBEL4.out.size)
             clear hbel5)))
      go_ret
      exact ⟨rfl, HBEL5.out⟩
end Go.Proofs.YtpfjmnaognlnkaaDoor
