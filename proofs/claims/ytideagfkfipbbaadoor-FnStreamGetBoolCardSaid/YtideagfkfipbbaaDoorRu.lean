/- The law FnStreamGetBool: the walk. PRINTED by wip/genru.py. -/
import Derived.Test.YtideagfkfipbbaaDoorRt
namespace Go.Proofs.YtideagfkfipbbaaDoor
open Go.RowKit
set_option linter.unusedVariables false

theorem StreamGetBool_wone (w : World) : Calls Tryd.prog 6 #[.slice (some ⟨w.heap.size, 0, none⟩) 1 1, .int .u64 0] (w.alloc (.cells #[.int .i64 1, .int .u64 1, .string ⟨#[]⟩, .int .i64 0, .slice none 0 0] 31)) fun e w' =>
    ∃ ds d A' c', d = ds.flatten ∧ e = .returned (.slice A' d.length c') ∧ Frms FrmBool [true] ds ∧ Reads w' w'.heap.size 1 A' d.length (bs d) ∧ d.length ≤ 1 * 1 ∧ d.length ≤ c' ∧ c' ≤ maxLen ∧ Below (w.heap.size + 1) (w.alloc (.cells #[.int .i64 1, .int .u64 1, .string ⟨#[]⟩, .int .i64 0, .slice none 0 0] 31)) w' := by
  have e1 : (w.alloc (.cells #[.int .i64 1, .int .u64 1, .string ⟨#[]⟩, .int .i64 0, .slice none 0 0] 31)).heap.size = w.heap.size + 1 := by simp
  have h := allWritten_calls FrmBool (fun _ => True) (fun x => 1) (fun x => ((x.toNat : Nat) : Int)) 1 (by omega) PutPack_bool (w.alloc (.cells #[.int .i64 1, .int .u64 1, .string ⟨#[]⟩, .int .i64 0, .slice none 0 0] 31)) (some ⟨w.heap.size, 0, none⟩) 1 0 [true] (by rw [e1]; exact wantsA_one w true (fun x => 1) (fun x => ((x.toNat : Nat) : Int))) (by simp) (fun _ _ => trivial)
  refine h.mono ?_
  rintro e w' ⟨ds, d, A', c', h1, h2, h3, h4, h5, h6, h7, h8⟩
  refine ⟨ds, d, A', c', h1, h2, h3, h4, h5, h6, h7, ?_⟩
  rw [← e1]
  exact h8
theorem StreamGetBool_one (w : World) (A : Option Addr) (c : Nat) (ds : List (List Int)) (d : List Int) (hdd : d = ds.flatten) (hd : Frms FrmBool [true] ds) (h : Reads w w.heap.size 1 A d.length (bs d)) (hm : d.length ≤ 1 * 1) :
    Calls Tryd.prog 5 #[.slice A d.length c, .int .i64 1, .int .i64 100, .int .i64 1] w fun e w' => ∃ ad c', e = .returned (.tuple #[.slice (some ad) 1 c', .bool true]) ∧ w'.cell? (ad.add 0) = some (Value.bool true) ∧ w'.cell? ad = some (Value.bool true) ∧ Below w.heap.size w w' := by
  refine (StreamGetBool_calls w A c 100 1 [true] ds d hdd hd h (by omega) (by omega) (by omega) (by omega) (by simp) (by omega)).mono ?_
  rintro e w' ⟨A', c', he, hr, _, _, hb⟩
  obtain ⟨ad, rfl, _, hc⟩ := hr.2 (by simp)
  have q := hc 0 (Value.bool true) rfl
  refine ⟨ad, c', he, q, ?_, hb⟩
  simpa [Addr.add] using q

set_option maxHeartbeats 4000000 in
set_option maxRecDepth 100000 in
theorem FnStreamGetBool_walk (w : World) (A : Option Addr) (c : Nat) (st b ch : Int) (l : List Bool) (h : Reads w w.heap.size 1 A l.length (l.map fun x => Value.bool x)) :
    Calls Tryd.prog 3 #[.slice A l.length c, .int .u64 st, .int .i64 b, .int .i64 ch] w fun e w' => e = .returned (.bool true) ∧ Below w.heap.size w w' := by
  have H := Lib.hid h

  clear h
  by_cases hz : 2147483647 < l.length
  · have hd : decide ((2147483647 : Int) < (l.length : Int)) = true := by simp; omega
    go_enter Tryd.func3, Tryd.ntmps3
    go_wp2
    go_ret
    exact ⟨rfl, Below.refl _ _⟩
  have hd : decide ((2147483647 : Int) < (l.length : Int)) = false := by simp; omega
  by_cases hb : b < 18 ∨ 65536 < b ∨ ch < 1 ∨ 65536 < ch
  · have HB := Lib.hid hb
    clear hb
    go_enter Tryd.func3, Tryd.ntmps3
    go_wp2_with (first
      | (go_at_call 7
         go_must (
           (refine (bit_calls _ _).mono ?_)
           rintro e w' ⟨rfl, rfl⟩))
      | (go_at_call 6
         go_must (
           (refine (StreamGetBool_wone w).mono ?_)
           rintro e w1 ⟨ds1, d1, A1, c1, hd1, rfl, hf1, hr1, hm1, hc1, hx1, hbel1⟩
           have HR1 := Lib.hid hr1
           have HD1 := Lib.hid hd1
           have HF1 := Lib.hid hf1
           have HBEL1 : Hid (Below w.heap.size w w1) := ((Below.refl _ w).alloc (Nat.le_refl _) _).trans (hbel1.mono (by simp))
           clear hr1 hf1 hd1 hbel1))
      | (go_at_call 5
         go_must (
           (refine (StreamGetBool_one w1 A1 c1 ds1 d1 HD1.out HF1.out HR1.out hm1).mono ?_)
           rintro e w2 ⟨ad2, c2, rfl, hc20, hc21, hbel2⟩
           have HBEL2 : Hid (Below w.heap.size w w2) := HBEL1.out.trans (hbel2.mono HBEL1.out.size)
           clear hbel2))
      | (go_at_call 8
         go_must (
           (refine (bufs_no _ b ch HB.out).mono ?_)
           rintro e w' ⟨rfl, rfl⟩)))
    go_ret
    exact ⟨rfl, HBEL2.out⟩
  have hb0 : 18 ≤ b := by omega
  have hb1 : b ≤ 65536 := by omega
  have hh0 : 1 ≤ ch := by omega
  have hh1 : ch ≤ 65536 := by omega
  clear hb
  by_cases hn : 100 < l.length
  · have hd2 : decide ((100 : Int) < (l.length : Int)) = true := by simp; omega
    go_enter Tryd.func3, Tryd.ntmps3
    go_wp2_with (first
      | (go_at_call 7
         go_must (
           (refine (bit_calls _ _).mono ?_)
           rintro e w' ⟨rfl, rfl⟩))
      | (go_at_call 6
         go_must (
           (refine (StreamGetBool_wone w).mono ?_)
           rintro e w1 ⟨ds1, d1, A1, c1, hd1, rfl, hf1, hr1, hm1, hc1, hx1, hbel1⟩
           have HR1 := Lib.hid hr1
           have HD1 := Lib.hid hd1
           have HF1 := Lib.hid hf1
           have HBEL1 : Hid (Below w.heap.size w w1) := ((Below.refl _ w).alloc (Nat.le_refl _) _).trans (hbel1.mono (by simp))
           clear hr1 hf1 hd1 hbel1))
      | (go_at_call 5
         go_must (
           (refine (StreamGetBool_one w1 A1 c1 ds1 d1 HD1.out HF1.out HR1.out hm1).mono ?_)
           rintro e w2 ⟨ad2, c2, rfl, hc20, hc21, hbel2⟩
           have HBEL2 : Hid (Below w.heap.size w w2) := HBEL1.out.trans (hbel2.mono HBEL1.out.size)
           clear hbel2))
      | (go_at_call 8
         go_must (
           (refine (bufs_yes _ b ch hb0 hb1 hh0 hh1).mono ?_)
           rintro e w' ⟨rfl, rfl⟩)))
    go_ret
    exact ⟨rfl, HBEL2.out⟩
  have hd2 : decide ((100 : Int) < (l.length : Int)) = false := by simp; omega
  obtain ⟨sz, rfl⟩ : ∃ sz : Nat, b = sz := ⟨b.toNat, by omega⟩
  obtain ⟨i0, hi0, hz0, hz1, hz2⟩ := info_parts infoPackA
  go_enter Tryd.func3, Tryd.ntmps3
  go_wp2_with (first
      | (go_at_call 7
         go_must (
           (refine (bit_calls _ _).mono ?_)
           rintro e w' ⟨rfl, rfl⟩))
      | (go_at_call 6
         go_must (
           (refine (StreamGetBool_wone w).mono ?_)
           rintro e w1 ⟨ds1, d1, A1, c1, hd1, rfl, hf1, hr1, hm1, hc1, hx1, hbel1⟩
           have HR1 := Lib.hid hr1
           have HD1 := Lib.hid hd1
           have HF1 := Lib.hid hf1
           have HBEL1 : Hid (Below w.heap.size w w1) := ((Below.refl _ w).alloc (Nat.le_refl _) _).trans (hbel1.mono (by simp))
           clear hr1 hf1 hd1 hbel1))
      | (go_at_call 5
         go_must (
           (refine (StreamGetBool_one w1 A1 c1 ds1 d1 HD1.out HF1.out HR1.out hm1).mono ?_)
           rintro e w2 ⟨ad2, c2, rfl, hc20, hc21, hbel2⟩
           have HBEL2 : Hid (Below w.heap.size w w2) := HBEL1.out.trans (hbel2.mono HBEL1.out.size)
           clear hbel2))
      | (go_at_call 8
         go_must (
           (refine (bufs_yes _ sz ch hb0 hb1 hh0 hh1).mono ?_)
           rintro e w' ⟨rfl, rfl⟩)))
  clear hc20 hc21
  go_loopw [13, 55] (fun d i wr => ∃ (k : Nat) (A' : Option Addr) (c' : Nat), k ≤ l.length ∧ i = .int .i64 k ∧ d = .slice A' k c' ∧ Hid (wr.ownsRow w.heap.size 31 5 (.slice A' k c') k ((l.take k).flatMap fun x => c5A (1) (((x.toNat : Nat) : Int))) ∧ Below w.heap.size w wr)) (fun _ i _ => l.length - (intOf i).toNat)
  case atStart => exact ⟨0, none, 0, Nat.zero_le _, rfl, rfl, ⟨by simp, .inl ⟨rfl, rfl⟩⟩, HBEL2.out⟩
  case round =>
    obtain ⟨k, A', c', hk, rfl, rfl, hrest⟩ := hrel
    by_cases hlt : k < l.length
    · obtain ⟨ad, u, hA, hadB, hu, hcell0⟩ := H.out.at_ hlt
      have hv : u = Value.bool l[k] := by
        have := hu.symm.trans (show (l.map fun x => Value.bool x)[k]? = some (Value.bool l[k]) by rw [List.getElem?_map, List.getElem?_eq_getElem hlt]; rfl)
        injection this
      subst hA hv
      have hcell : wr.cell? (ad.add k) = some (Value.bool l[k]) := (hrest.out.2.cell (by rw [block_of_add]; exact hadB)).trans hcell0
      have hsn : (l.take (k + 1)).flatMap (fun x => c5A (1) (((x.toNat : Nat) : Int))) = (l.take k).flatMap (fun x => c5A (1) (((x.toNat : Nat) : Int))) ++ (fun x => c5A (1) (((x.toNat : Nat) : Int))) l[k] := by
        rw [List.take_succ_eq_append_getElem hlt, List.flatMap_append]; simp

      generalize l[k] = x at *
      have HSN := Lib.hid hsn
      clear hcell0 hsn hu

      have hwz : w.heap.size ≤ wr.heap.size := hrest.out.2.size
      go_wp2_with (first
        | (go_at_call 7
           go_must (
             (refine (bit_calls _ _).mono ?_)
             rintro e w' ⟨rfl, rfl⟩))
        | ((at_builtin)
           go_must (
            (refine wpList_append_any _ rfl (.tmp 59) (.tmp 63) 29 rfl w.heap.size 31 i0 _ 5 64 Tryd.underlying29 hi0 hz0 hz1 hz2 rfl (by omega) (.slice A' k c') k _ rfl (hrest.out.1.alloc _) (wr.heap.size + 1) _ 1 1 (c5A (1) (((x.toNat : Nat) : Int))) rfl (reads_fiveA _ _ _ _) (c5A_one _ _) (by simp only [maxLen]; omega) (by omega) (by simp; omega) ?_)
            intro v1 w1' hown1 hg1 hat1
            obtain ⟨A1', c1', rfl, _, _⟩ := own_formR hown1
            have HO1 := Lib.hid hown1
            have HG1 := Lib.hid hg1
            clear hown1 hg1 hat1)))
      go_roundw
      case rel =>
        refine ⟨k + 1, A1', c1', by omega, by go_num, rfl, ?_, ?_⟩
        · rw [HSN.out]; exact HO1.out
        · exact (hrest.out.2.alloc hwz _).grown HG1.out (by simp; omega) (fun j hj => (hrest.out.1.lt j hj).1)
      case measure => simp [intOf]; omega
    · obtain rfl : k = l.length := by omega
      have how := hrest.out.1
      rw [List.take_length] at how
      have HOW := Lib.hid how
      have HBR := Lib.hid hrest.out.2
      clear hrest how
      go_wp2_with (first
        | (go_at_call 6
           go_must (
             (refine (allWritten_calls FrmBool (fun _ => True) (fun x => 1) (fun x => ((x.toNat : Nat) : Int)) 1 (by omega) PutPack_bool wr A' c' st l (wantsA_own HOW.out) (by omega) (fun _ _ => trivial)).mono ?_)
             rintro e w3 ⟨ds3, d3, A3, c3, hd3, rfl, hf3, hr3, hm3, hc3, hx3, hbel3⟩
             have HR3 := Lib.hid hr3
             have HD3 := Lib.hid hd3
             have HF3 := Lib.hid hf3
             have HBEL3 : Hid (Below w.heap.size w w3) := HBR.out.trans (hbel3.mono HBR.out.size)
             have hm3' : d3.length ≤ 1000000 := Nat.le_trans hm3 (Nat.le_trans (Nat.mul_le_mul_left _ (show l.length ≤ 100 by omega)) (by omega))
             clear hr3 hf3 hd3 hbel3 hm3))
        | (go_at_call 5
           go_must (
             (refine (StreamGetBool_calls w3 A3 c3 sz ch l ds3 d3 HD3.out HF3.out HR3.out (by omega) (by omega) hh0 hh1 (by omega) hm3').mono ?_)
             rintro e w4 ⟨A4, c4, rfl, hr4, hc4, hx4, hbel4⟩
             rw [List.length_map] at hr4 hc4
             simp only [List.length_map]
             have HR4 := Lib.hid hr4
             have HBEL4 : Hid (Below w.heap.size w w4) := HBEL3.out.trans (hbel4.mono HBEL3.out.size)
             clear hr4 hbel4))
        | (go_at_call 9
           go_must (
             (refine (sameItems_bool w4 A4 A c4 c l HR4.out ((H.out.below HBEL4.out).more HBEL4.out.size) (by omega)).mono ?_)
             rintro e w5 ⟨rfl, hbel5⟩
             have HBEL5 : Hid (Below w.heap.size w w5) := HBEL4.out.trans (hbel5.mono HBEL4.out.size)
             clear hbel5)))
      go_ret
      exact ⟨rfl, HBEL5.out⟩
end Go.Proofs.YtideagfkfipbbaaDoor
