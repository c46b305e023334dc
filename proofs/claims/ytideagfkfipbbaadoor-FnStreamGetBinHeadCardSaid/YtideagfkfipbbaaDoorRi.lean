/- The law FnStreamGetBinHead: the walk. PRINTED by wip/genrv.py. -/
import Derived.Test.YtideagfkfipbbaaDoorRt
import Derived.Test.YtideagfkfipbbaaDoorRh
namespace Go.Proofs.YtideagfkfipbbaaDoor
open Go.RowKit
set_option linter.unusedVariables false

set_option maxHeartbeats 2000000 in
set_option maxRecDepth 100000 in
theorem sameItems_uint32 (w : World) (A A2 : Option Addr) (c c2 : Nat) (l : List Int) (h : Reads w w.heap.size 1 A l.length (l.map fun x => Value.int .u32 x)) (h2 : Reads w w.heap.size 1 A2 l.length (l.map fun x => Value.int .u32 x)) (hl : l.length ≤ 100) :
    Calls Tryd.prog 12 #[.slice A l.length c, .slice A2 l.length c2] w fun e w' => e = .returned (.bool true) ∧ Below w.heap.size w w' := by
  have H := Lib.hid h
  have H2 := Lib.hid h2
  clear h h2
  go_enter Tryd.func12, Tryd.ntmps12
  go_wp2
  go_loopw [13] (fun i wr => ∃ k : Nat, k ≤ l.length ∧ i = .int .i64 k ∧ Hid (Below w.heap.size w wr)) (fun i _ => l.length - (intOf i).toNat)
  case atStart => exact ⟨0, Nat.zero_le _, rfl, Below.refl _ _⟩
  case round =>
    obtain ⟨k, hk, rfl, hrest⟩ := hrel
    by_cases hlt : k < l.length
    · obtain ⟨ad, u, hA, hb, hu, hc⟩ := H.out.at_ hlt
      obtain ⟨ad2, u2, hA2, hb2, hu2, hc2⟩ := H2.out.at_ hlt
      have hv : u = Value.int .u32 l[k] := by
        have := hu.symm.trans (show (l.map fun x => Value.int .u32 x)[k]? = some (Value.int .u32 l[k]) by rw [List.getElem?_map, List.getElem?_eq_getElem hlt]; rfl)
        injection this
      have hv2 : u2 = Value.int .u32 l[k] := by
        have := hu2.symm.trans (show (l.map fun x => Value.int .u32 x)[k]? = some (Value.int .u32 l[k]) by rw [List.getElem?_map, List.getElem?_eq_getElem hlt]; rfl)
        injection this
      subst hA hA2 hv hv2
      generalize l[k] = x at *
      have q1 : wr.cell? (ad.add k) = some (Value.int .u32 x) := (hrest.out.cell (by rw [block_of_add]; exact hb)).trans hc
      have q2 : wr.cell? (ad2.add k) = some (Value.int .u32 x) := (hrest.out.cell (by rw [block_of_add]; exact hb2)).trans hc2
      have hk0 : (0 : Int) ≤ (k : Int) := by omega
      have hk1 : (k : Int) < (l.length : Int) := by omega
      clear hu hu2 hc hc2
      go_wp2
      go_quiet (fail)
      go_wp2
      go_roundw
      case rel => exact ⟨k + 1, by omega, by go_num, below_drewN hrest.out _⟩
      case measure => simp [intOf]; omega
    · obtain rfl : k = l.length := by omega
      go_wp2
      go_ret
      exact ⟨rfl, hrest.out⟩

theorem BinHead_wone (w : World) : Calls Tryd.prog 11 #[.int .i64 7, .slice (some ⟨w.heap.size, 0, none⟩) 1 1, .int .u64 0] (w.alloc (.cells #[.int .u32 5] 39)) fun e w' =>
    ∃ ds d A' c', d = ds.flatten ∧ e = .returned (.slice A' d.length c') ∧ Frms FrmBin [5] ds ∧ Reads w' w'.heap.size 1 A' d.length (bs d) ∧ d.length ≤ 5 * 1 ∧ d.length ≤ c' ∧ c' ≤ maxLen ∧ Below (w.heap.size + 1) (w.alloc (.cells #[.int .u32 5] 39)) w' := by
  have e1 : (w.alloc (.cells #[.int .u32 5] 39)).heap.size = w.heap.size + 1 := by simp
  have h := headsWritten_calls (w.alloc (.cells #[.int .u32 5] 39)) (some ⟨w.heap.size, 0, none⟩) 1 0 [5] (by rw [e1]; exact reads_one1 w _ _) (by simp) (by simp)
  refine h.mono ?_
  rintro e w' ⟨ds, d, A', c', h1, h2, h3, h4, h5, h6, h7, h8⟩
  refine ⟨ds, d, A', c', h1, h2, h3, h4, h5, h6, h7, ?_⟩
  rw [← e1]
  exact h8
theorem BinHead_one (w : World) (A : Option Addr) (c : Nat) (ds : List (List Int)) (d : List Int) (hdd : d = ds.flatten) (hd : Frms FrmBin [5] ds) (h : Reads w w.heap.size 1 A d.length (bs d)) (hm : d.length ≤ 5 * 1) :
    Calls Tryd.prog 10 #[.slice A d.length c, .int .i64 1, .int .i64 100, .int .i64 1] w fun e w' => ∃ ad c', e = .returned (.tuple #[.slice (some ad) 1 c', .bool true]) ∧ w'.cell? (ad.add 0) = some (.int .u32 5) ∧ w'.cell? ad = some (.int .u32 5) ∧ Below w.heap.size w w' := by
  refine (StreamGetBinHead_calls w A c 100 1 [5] ds d hdd hd h (by omega) (by omega) (by omega) (by omega) (by simp) (by omega)).mono ?_
  rintro e w' ⟨A', c', he, hr, _, _, hb⟩
  obtain ⟨ad, rfl, _, hc⟩ := hr.2 (by simp)
  have q := hc 0 (.int .u32 5) rfl
  refine ⟨ad, c', he, q, ?_, hb⟩
  simpa [Addr.add] using q

set_option maxHeartbeats 4000000 in
set_option maxRecDepth 100000 in
theorem FnStreamGetBinHead_walk (w : World) (A : Option Addr) (c : Nat) (st b ch : Int) (l : List Int) (h : Reads w w.heap.size 1 A l.length (l.map (Value.int .u32))) (hx : ∀ x ∈ l, 0 ≤ x ∧ x ≤ 4294967295) :
    Calls Tryd.prog 4 #[.slice A l.length c, .int .u64 st, .int .i64 b, .int .i64 ch] w fun e w' => e = .returned (.bool true) ∧ Below w.heap.size w w' := by
  have H := Lib.hid h
  have HX := Lib.hid hx
  clear h hx
  by_cases hz : 2147483647 < l.length
  · have hd : decide ((2147483647 : Int) < (l.length : Int)) = true := by simp; omega
    go_enter Tryd.func4, Tryd.ntmps4
    go_wp2
    go_ret
    exact ⟨rfl, Below.refl _ _⟩
  have hd : decide ((2147483647 : Int) < (l.length : Int)) = false := by simp; omega
  by_cases hb : b < 18 ∨ 65536 < b ∨ ch < 1 ∨ 65536 < ch
  · have HB := Lib.hid hb
    clear hb
    go_enter Tryd.func4, Tryd.ntmps4
    go_wp2_with (first
      | (go_at_call 11
         go_must (
           (refine (BinHead_wone w).mono ?_)
           rintro e w1 ⟨ds1, d1, A1, c1, hd1, rfl, hf1, hr1, hm1, hc1, hx1, hbel1⟩
           have HR1 := Lib.hid hr1
           have HD1 := Lib.hid hd1
           have HF1 := Lib.hid hf1
           have HBEL1 : Hid (Below w.heap.size w w1) := ((Below.refl _ w).alloc (Nat.le_refl _) _).trans (hbel1.mono (by simp))
           clear hr1 hf1 hd1 hbel1))
      | (go_at_call 10
         go_must (
           (refine (BinHead_one w1 A1 c1 ds1 d1 HD1.out HF1.out HR1.out hm1).mono ?_)
           rintro e w2 ⟨ad2, c2, rfl, hc20, hc21, hbel2⟩
           have HBEL2 : Hid (Below w.heap.size w w2) := HBEL1.out.trans (hbel2.mono HBEL1.out.size)
           clear hbel2))
      | (go_at_call 8
         go_must (
           (refine (bufs_no _ b ch HB.out).mono ?_)
           rintro e w' ⟨rfl, rfl⟩)))
    go_ret
    exact ⟨rfl, HBEL2.out⟩
  have hb0 : 18 ≤ b := by omega
  have hb1 : b ≤ 65536 := by omega
  have hh0 : 1 ≤ ch := by omega
  have hh1 : ch ≤ 65536 := by omega
  clear hb
  by_cases hn : 100 < l.length
  · have hd2 : decide ((100 : Int) < (l.length : Int)) = true := by simp; omega
    go_enter Tryd.func4, Tryd.ntmps4
    go_wp2_with (first
      | (go_at_call 11
         go_must (
           (refine (BinHead_wone w).mono ?_)
           rintro e w1 ⟨ds1, d1, A1, c1, hd1, rfl, hf1, hr1, hm1, hc1, hx1, hbel1⟩
           have HR1 := Lib.hid hr1
           have HD1 := Lib.hid hd1
           have HF1 := Lib.hid hf1
           have HBEL1 : Hid (Below w.heap.size w w1) := ((Below.refl _ w).alloc (Nat.le_refl _) _).trans (hbel1.mono (by simp))
           clear hr1 hf1 hd1 hbel1))
      | (go_at_call 10
         go_must (
           (refine (BinHead_one w1 A1 c1 ds1 d1 HD1.out HF1.out HR1.out hm1).mono ?_)
           rintro e w2 ⟨ad2, c2, rfl, hc20, hc21, hbel2⟩
           have HBEL2 : Hid (Below w.heap.size w w2) := HBEL1.out.trans (hbel2.mono HBEL1.out.size)
           clear hbel2))
      | (go_at_call 8
         go_must (
           (refine (bufs_yes _ b ch hb0 hb1 hh0 hh1).mono ?_)
           rintro e w' ⟨rfl, rfl⟩)))
    go_ret
    exact ⟨rfl, HBEL2.out⟩
  have hd2 : decide ((100 : Int) < (l.length : Int)) = false := by simp; omega
  obtain ⟨sz, rfl⟩ : ∃ sz : Nat, b = sz := ⟨b.toNat, by omega⟩
  go_enter Tryd.func4, Tryd.ntmps4
  go_wp2_with (first
      | (go_at_call 11
         go_must (
           (refine (BinHead_wone w).mono ?_)
           rintro e w1 ⟨ds1, d1, A1, c1, hd1, rfl, hf1, hr1, hm1, hc1, hx1, hbel1⟩
           have HR1 := Lib.hid hr1
           have HD1 := Lib.hid hd1
           have HF1 := Lib.hid hf1
           have HBEL1 : Hid (Below w.heap.size w w1) := ((Below.refl _ w).alloc (Nat.le_refl _) _).trans (hbel1.mono (by simp))
           clear hr1 hf1 hd1 hbel1))
      | (go_at_call 10
         go_must (
           (refine (BinHead_one w1 A1 c1 ds1 d1 HD1.out HF1.out HR1.out hm1).mono ?_)
           rintro e w2 ⟨ad2, c2, rfl, hc20, hc21, hbel2⟩
           have HBEL2 : Hid (Below w.heap.size w w2) := HBEL1.out.trans (hbel2.mono HBEL1.out.size)
           clear hbel2))
      | (go_at_call 8
         go_must (
           (refine (bufs_yes _ sz ch hb0 hb1 hh0 hh1).mono ?_)
           rintro e w' ⟨rfl, rfl⟩)))
  clear hc20 hc21
  go_loop [49] (fun i => ∃ k : Nat, k ≤ l.length ∧ i = .int .i64 k) (fun i => l.length - (intOf i).toNat)
  case atStart => exact ⟨0, Nat.zero_le _, rfl⟩
  case round =>
    obtain ⟨k, hk, rfl⟩ := hrel
    by_cases hlt : k < l.length
    · obtain ⟨ad, u, hA, hadB, hu, hcell0⟩ := H.out.at_ hlt
      have hv : u = .int .u32 l[k] := by
        have := hu.symm.trans (show (l.map (Value.int .u32))[k]? = some (.int .u32 l[k]) by rw [List.getElem?_map, List.getElem?_eq_getElem hlt]; rfl)
        injection this
      subst hA hv
      have hcell : w2.cell? (ad.add k) = some (.int .u32 l[k]) := (HBEL2.out.cell (by rw [block_of_add]; exact hadB)).trans hcell0
      generalize l[k] = x at *
      clear hcell0 hu
      by_cases hbig : 1048576 < x
      · go_wp2
        go_ret
        exact ⟨rfl, HBEL2.out⟩
      · have hbd : decide (1048576 < x) = false := decide_eq_false hbig
        go_wp2
        go_round
        case rel => exact ⟨k + 1, by omega, by go_num⟩
        case measure => simp [intOf]; omega
    · obtain rfl : k = l.length := by omega
      go_wp2_with (first
        | (go_at_call 11
           go_must (
             (refine (headsWritten_calls w2 A c st l ((H.out.below HBEL2.out).more HBEL2.out.size) (by omega) HX.out).mono ?_)
             rintro e w3 ⟨ds3, d3, A3, c3, hd3, rfl, hf3, hr3, hm3, hc3, hx3, hbel3⟩
             have HR3 := Lib.hid hr3
             have HD3 := Lib.hid hd3
             have HF3 := Lib.hid hf3
             have HBEL3 : Hid (Below w.heap.size w w3) := HBEL2.out.trans (hbel3.mono HBEL2.out.size)
             have hm3' : d3.length ≤ 1000000 := by omega
             clear hr3 hf3 hd3 hbel3 hm3))
        | (go_at_call 10
           go_must (
             (refine (StreamGetBinHead_calls w3 A3 c3 sz ch l ds3 d3 HD3.out HF3.out HR3.out (by omega) (by omega) hh0 hh1 (by omega) hm3').mono ?_)
             rintro e w4 ⟨A4, c4, rfl, hr4, hc4, hx4, hbel4⟩
             rw [List.length_map] at hr4 hc4
             simp only [List.length_map]
             have HR4 := Lib.hid hr4
             have HBEL4 : Hid (Below w.heap.size w w4) := HBEL3.out.trans (hbel4.mono HBEL3.out.size)
             clear hr4 hbel4))
        | (go_at_call 12
           go_must (
             (refine (sameItems_uint32 w4 A4 A c4 c l HR4.out ((H.out.below HBEL4.out).more HBEL4.out.size) (by omega)).mono ?_)
             rintro e w5 ⟨rfl, hbel5⟩
             have HBEL5 : Hid (Below w.heap.size w w5) := HBEL4.out.trans (hbel5.mono HBEL4.out.size)
             clear hbel5)))
      go_ret
      exact ⟨rfl, HBEL5.out⟩
end Go.Proofs.YtideagfkfipbbaaDoor
