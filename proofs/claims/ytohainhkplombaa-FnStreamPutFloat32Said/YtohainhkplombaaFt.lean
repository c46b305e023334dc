/- FnStreamPutFloat32: the walk. PRINTED by wip/genflt.py. -/
import Derived.Test.YtohainhkplombaaKt
import Derived.Test.YtohainhkplombaaFv
namespace Go.Proofs.Ytohainhkplombaa
open Go.RowKit
set_option linter.unusedVariables false

theorem StreamPutFloat32_calls (w : World) (A : Option Addr) (c : Nat) (sz : Int) (l : List Int) (h : Reads w w.heap.size 1 A l.length (l.map (Value.int .u32))) (h18 : 18 ≤ sz) (hsz : sz ≤ 65536) (hl : ∀ x ∈ l, 0 ≤ x ∧ x ≤ 4294967295) (hn : l.length ≤ 100) :
    Calls Try.prog 7 #[.int .i64 sz, .slice A l.length c] w (Wrt w w.heap.size (l.flatMap encF)) := by
  have H := Lib.hid h
  have HL := Lib.hid hl
  clear h hl
  go_enter Try.func7, Try.ntmps7
  go_wp2_with (
    (go_at_call 14)
    go_must (
      (refine (StreamPutFloat32_written w A c sz l H.out h18 hsz HL.out hn).mono ?_)
      rintro e W1 ⟨A2, c2, rfl, hr, hc2, hm2, hbel⟩
      obtain ⟨N2, hN2⟩ : ∃ N2, N2 = (l.flatMap encF).length := ⟨_, rfl⟩
      rw [← hN2]
      have HN2 := Lib.hid hN2
      have HR := Lib.hid hr
      have HC := Lib.hid hc2
      have HBEL := Lib.hid hbel
      clear hr hc2 hbel hN2))
  go_ret2
  exact ⟨A2, c2, by rw [← HN2.out]; rfl, HR.out, HC.out, hm2, HBEL.out⟩
theorem StreamPutFloat32_awake (w : World) (A : Option Addr) (h : Reads w w.heap.size 1 A 1 [.int .u32 5]) : Calls Try.prog 7 #[.int .i64 100, .slice A 1 1] w (Wrt w w.heap.size [202, 0, 0, 0, 5]) := by
  have e := StreamPutFloat32_calls w A 1 100 [5] h (by omega) (by omega) (by simp) (by simp)
  exact e

set_option maxHeartbeats 4000000 in
set_option maxRecDepth 100000 in
theorem FnStreamPutFloat32_walk (w : World) (A : Option Addr) (c : Nat) (b : Int) (l : List Int) (h : Reads w w.heap.size 1 A l.length (l.map (Value.int .u32))) (hl : ∀ x ∈ l, 0 ≤ x ∧ x ≤ 4294967295) :
    Calls Try.prog 3 #[.int .i64 b, .slice A l.length c] w fun e w' => e = .returned (.bool true) ∧ Below w.heap.size w w' := by
  have H := Lib.hid h
  have HL := Lib.hid hl
  clear h hl
  by_cases hz : 2147483647 < l.length
  · have hd : decide ((2147483647 : Int) < (l.length : Int)) = true := by simp; omega
    go_enter Try.func3, Try.ntmps3
    go_wp2
    go_ret
    exact ⟨rfl, Below.refl _ _⟩
  have hd : decide ((2147483647 : Int) < (l.length : Int)) = false := by simp; omega
  by_cases hb : b < 18 ∨ 65536 < b
  · have HB := Lib.hid hb
    clear hb
    go_enter Try.func3, Try.ntmps3
    go_wp2_with (first
      | (go_at_call 7
         go_must (
           (refine (StreamPutFloat32_awake _ _ (by simpa using reads_one w (.int .u32 5) 26)).mono ?_)
           rintro e w1 ⟨A1, c1, rfl, hr1, hc1, hm1, hbel1⟩
           have HBEL1 := Lib.hid hbel1
           clear hr1 hbel1))
      | (go_at_call 8
         go_must (
           (refine (buffers_no _ b HB.out).mono ?_)
           rintro e w' ⟨rfl, rfl⟩)))
    go_ret
    exact ⟨rfl, ((Below.refl _ w).alloc (Nat.le_refl _) _).trans (HBEL1.out.mono (by simp))⟩
  have hb0 : 18 ≤ b := by omega
  have hb1 : b ≤ 65536 := by omega
  clear hb
  by_cases hn : 100 < l.length
  · have hd2 : decide ((100 : Int) < (l.length : Int)) = true := by simp; omega
    go_enter Try.func3, Try.ntmps3
    go_wp2_with (first
      | (go_at_call 7
         go_must (
           (refine (StreamPutFloat32_awake _ _ (by simpa using reads_one w (.int .u32 5) 26)).mono ?_)
           rintro e w1 ⟨A1, c1, rfl, hr1, hc1, hm1, hbel1⟩
           have HBEL1 := Lib.hid hbel1
           clear hr1 hbel1))
      | (go_at_call 8
         go_must (
           (refine (buffers_yes _ b hb0 hb1).mono ?_)
           rintro e w' ⟨rfl, rfl⟩)))
    go_ret
    exact ⟨rfl, ((Below.refl _ w).alloc (Nat.le_refl _) _).trans (HBEL1.out.mono (by simp))⟩
  have hd2 : decide ((100 : Int) < (l.length : Int)) = false := by simp; omega
  obtain ⟨i0, hi0, hz0, hz1, hz2⟩ := info_parts infoPack
  go_enter Try.func3, Try.ntmps3
  go_wp2_with (first
    | (go_at_call 7
       go_must (
         (refine (StreamPutFloat32_awake _ _ (by simpa using reads_one w (.int .u32 5) 26)).mono ?_)
         rintro e w1 ⟨A1, c1, rfl, hr1, hc1, hm1, hbel1⟩
         have HBEL1 : Hid (Below w.heap.size w w1) := ((Below.refl _ w).alloc (Nat.le_refl _) _).trans (hbel1.mono (by simp))
         clear hr1 hbel1))
    | (go_at_call 8
       go_must (
         (refine (buffers_yes _ b hb0 hb1).mono ?_)
         rintro e w' ⟨rfl, rfl⟩)))
  go_loopw [8, 38] (fun d i wr => ∃ k A' c', k ≤ l.length ∧ i = .int .i64 (k : Nat) ∧ d = .slice A' k c' ∧ Hid (wr.ownsRow w.heap.size 31 5 (.slice A' k c') k ((l.take k).flatMap fun x => c5 (4) (x)) ∧ Below w.heap.size w wr)) (fun _ i _ => l.length - (intOf i).toNat)
  case atStart => exact ⟨0, none, 0, Nat.zero_le _, rfl, rfl, ⟨by simp, .inl ⟨rfl, rfl⟩⟩, HBEL1.out⟩
  case round =>
    obtain ⟨k, A', c', hk, rfl, rfl, hrest⟩ := hrel
    by_cases hlt : k < l.length
    · obtain ⟨ad, hA, hadB, hcell0⟩ := H.out.num hlt
      subst hA
      have hcell : wr.cell? (ad.add k) = some (.int .u32 (l.getD k 0)) := (hrest.out.2.cell (by rw [block_of_add]; exact hadB)).trans hcell0
      have hu := HL.out (l.getD k 0) (by rw [List.getD_eq_getElem?_getD, List.getElem?_eq_getElem hlt]; exact List.getElem_mem hlt)
      have hsn : (l.take (k + 1)).flatMap (fun x => c5 (4) (x)) = (l.take k).flatMap (fun x => c5 (4) (x)) ++ (fun x => c5 (4) (x)) (l.getD k 0) := by
        rw [List.take_succ_eq_append_getElem hlt, List.flatMap_append, List.getD_eq_getElem?_getD, List.getElem?_eq_getElem hlt]; simp
      obtain ⟨hu0, hu1⟩ := hu
      generalize l.getD k 0 = u at *
      have HSN := Lib.hid hsn
      clear hcell0 hsn
      have hwz : w.heap.size ≤ wr.heap.size := hrest.out.2.size
      go_wp2_with (
        (at_builtin)
        go_must (
          (refine wpList_append_any _ rfl (.tmp 42) (.tmp 46) 28 rfl w.heap.size 31 i0 _ 5 64 Try.underlying28 hi0 hz0 hz1 hz2 rfl (by omega) (.slice A' k c') k _ rfl (hrest.out.1.alloc _) (wr.heap.size + 1) _ 1 1 (c5 (4) (u)) rfl (reads_five _ _ _ _) (c5_one _ _) (by simp only [maxLen]; omega) (by omega) (by simp; omega) ?_)
          intro v1 w1' hown1 hg1 hat1
          obtain ⟨A1', c1', rfl, _, _⟩ := own_form5 hown1
          have HO1 := Lib.hid hown1
          have HG1 := Lib.hid hg1
          clear hown1 hg1 hat1))
      go_roundw
      case rel =>
        refine ⟨k + 1, A1', c1', by omega, by go_num, rfl, ?_, ?_⟩
        · rw [HSN.out]; exact HO1.out
        · refine (hrest.out.2.alloc hwz _).grown HG1.out (by simp; omega) (fun j hj => (hrest.out.1.lt j hj).1)
      case measure => simp [intOf]; omega
    · obtain rfl : k = l.length := by omega
      have HOW := Lib.hid hrest.out.1
      have HBR := Lib.hid hrest.out.2
      clear hrest
      go_wp2_with (first
        | (go_at_call 7
           go_must (
             (refine (StreamPutFloat32_calls wr A c b l ((H.out.below HBR.out).more HBR.out.size) hb0 hb1 HL.out (by omega)).mono ?_)
             rintro e w2 ⟨A2, c2, rfl, hr2, hc2, hm2, hbel2⟩
             obtain ⟨N2, hN2⟩ : ∃ N2, N2 = (l.flatMap encF).length := ⟨_, rfl⟩
             rw [← hN2]
             have HN2 := Lib.hid hN2
             have HR2 := Lib.hid hr2
             have HC2 := Lib.hid hc2
             have HBEL2 := Lib.hid hbel2
             clear hr2 hc2 hbel2 hN2))
        | (go_at_call 9
           go_must (
             (have hw := (wants_own (wk := fun x => 4) (wu := fun x => x) (by have := HOW.out; rw [List.take_length] at this; exact this)).below HBEL2.out)
             have hio := inOrder_calls w2 w2.heap.size c2 c' A2 A' l encF (fun x => 4) (fun x => x) (fun x => 4) (fun x => x) HR2.out (Nat.le_refl _) HC2.out hm2 (wants_more hw HBEL2.out.size) (by omega) (fun x hx => isB_cons (by omega) (by omega) (isB_be _ _)) (fun x hx rest hrest W A c h1 h2 h3 h4 => takeR202 x (HL.out x hx).1 (by have := (HL.out x hx).2; omega) rest hrest W _ c A h1 h2 h3 h4) (fun x hx W => SamePack_plain W 4 x 0 ⟨#[]⟩ (by decide))
             rw [← HN2.out] at hio
             refine hio.mono ?_
             rintro e w3 ⟨rfl, hbel3⟩
             have HBEL3 := Lib.hid hbel3
             clear hbel3)))
      go_ret
      have z1 := HBR.out.size
      have z2 := HBEL2.out.size
      exact ⟨rfl, (HBR.out.trans (HBEL2.out.mono z1)).trans (HBEL3.out.mono (by omega))⟩

end Go.Proofs.Ytohainhkplombaa
