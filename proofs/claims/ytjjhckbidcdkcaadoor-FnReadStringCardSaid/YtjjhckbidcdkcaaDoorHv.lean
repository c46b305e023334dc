/- spec.lengthed with a count. PRINTED by wip/genhu.py. -/
import Derived.Test.YtjjhckbidcdkcaaDoorHu
namespace Go.Proofs.YtjjhckbidcdkcaaDoor
open Go.RowKit
set_option linter.unusedVariables false

set_option maxHeartbeats 4000000 in
set_option maxRecDepth 100000 in
theorem lengthed_cnt (W : World) (sh lo : Int) (cnt : Nat) (hcnt : cnt ≤ 1000) (l : List Int) (A : Option Addr) (c : Nat) (hr : Reads W W.heap.size 1 A l.length (bs l)) (hl : l.length ≤ 100000000) :
    Calls Tryd.prog 88 #[.int .i64 sh, .int .i64 lo, .slice A l.length c, .int .i64 (cnt : Int)] W fun e W' => ∃ v, e = .returned v ∧ PcsW W' W.heap.size (lenP sh lo l (cnt : Int)) v ∧ Below W.heap.size W W' := by
  obtain ⟨N, hN⟩ : ∃ N, l.length = N := ⟨_, rfl⟩
  rw [hN] at hr hl ⊢
  obtain ⟨w1, hw1⟩ : ∃ w1, w1 = W.alloc (.cells #[.int .i64 sh, .int .i64 1, .int .i64 lo, .int .i64 4] 160) := ⟨_, rfl⟩
  have hp1 : Blk w1 W.heap.size 160 [.int .i64 sh, .int .i64 1, .int .i64 lo, .int .i64 4] := by rw [hw1]; exact Blk.new W _ [_, _, _, _]
  have hb1 : Below W.heap.size W w1 := by rw [hw1]; exact (Below.refl _ W).alloc (Nat.le_refl _) _
  have hz1 : w1.heap.size = W.heap.size + 1 := by rw [hw1]; simp
  have hA0 : lenA sh lo l (cnt : Int) 0 = [] := rfl
  have hA1 : lenA sh lo l (cnt : Int) 1 = if lenN N (cnt : Int) 1 ≤ 255 ∧ (cnt : Int) ≤ (255 : Int) then [(sh, lenD l (cnt : Int) 1)] else [] := by rw [← hN]; rfl
  have hA2 : lenA sh lo l (cnt : Int) 2 = lenA sh lo l (cnt : Int) 1 ++ [(lo, lenD l (cnt : Int) 4)] := rfl
  have hAP : lenP sh lo l (cnt : Int) = lenA sh lo l (cnt : Int) 2 := rfl
  rw [hAP]
  have HR := Lib.hid hr
  have HN := Lib.hid hN
  have HW1 := Lib.hid hw1
  have HP1 := Lib.hid hp1
  have HB1 := Lib.hid hb1
  have HA1 := Lib.hid hA1
  have HA2 := Lib.hid hA2
  clear hr hN hw1 hp1 hb1 hA1 hA2 hAP
  generalize lenA sh lo l (cnt : Int) = LA at *
  go_enter Tryd.func88, Tryd.ntmps88
  go_wp2
  rw [← HW1.out]
  go_loopw [9, 20] (fun v i wr => ∃ (m k : Nat) (Av : Option Addr) (cv : Nat), m ≤ 2 ∧ i = .int .i64 m ∧ v = .slice Av k cv ∧ k ≤ 2 ∧ Hid (k = (LA m).length ∧ PcsW wr w1.heap.size (LA m) (.slice Av k cv) ∧ Below w1.heap.size w1 wr)) (fun _ i _ => 2 - (intOf i).toNat)
  case atStart => exact ⟨0, 0, none, 0, by omega, rfl, rfl, by omega, by rw [hA0]; rfl, by rw [hA0]; exact PcsW.nil _ _, Below.refl _ _⟩
  case round =>
    obtain ⟨m, k, Av, cv, hm, rfl, rfl, hk2, hrest⟩ := hrel
    obtain ⟨hk, hpw, hg2⟩ := hrest.out
    have hwz : w1.heap.size ≤ wr.heap.size := hg2.size
    have hbw : Below W.heap.size W wr := HB1.out.trans (hg2.mono (by omega))
    have hpr := HP1.out.below hg2 HP1.out.lt
    have x0 := hpr.cell 0
    have x1 := hpr.cell 1
    have x2 := hpr.cell 2
    have x3 := hpr.cell 3
    simp only [List.getElem?_cons_zero, List.getElem?_cons_succ] at x0 x1 x2 x3
    have HK := Lib.hid hk
    have HPW := Lib.hid hpw
    have HG2 := Lib.hid hg2
    have HBW := Lib.hid hbw
    clear hrest hk hpw hg2 hbw hpr
    rcases (show m = 0 ∨ m = 1 ∨ m = 2 by omega) with rfl | rfl | rfl
    case inr.inr =>
      go_wp2
      go_ret
      exact ⟨_, rfl, HPW.out.lower (by omega), HBW.out⟩
    case inl =>
      obtain ⟨wa, hwa⟩ : ∃ wa, wa = (wr.alloc (.cells #[.int .i64 sh, .int .i64 1] 160)).alloc (.cells #[] 5) := ⟨_, rfl⟩
      have hwl : W.heap.size < wr.heap.size := by omega
      have hga : Below w1.heap.size w1 wa := by rw [hwa]; exact (HG2.out.alloc hwz _).alloc (by simp; omega) _
      have hba : Below wr.heap.size wr wa := by rw [hwa]; exact ((Below.refl _ wr).alloc (Nat.le_refl _) _).alloc (by simp) _
      have hya : Blk wa wr.heap.size 160 [.int .i64 sh, .int .i64 1] := by rw [hwa]; exact (Blk.new wr _ [_, _]).alloc _
      have hpwa := HPW.out.below hba
      have hra := ((HR.out.below (HBW.out.trans (hba.mono (by omega)))).more (show W.heap.size ≤ wa.heap.size by have := hba.size; omega))
      have hza : wr.heap.size + 2 = wa.heap.size := by rw [hwa]; simp
      have ya0 := hya.cell 0
      have ya1 := hya.cell 1
      simp only [List.getElem?_cons_zero, List.getElem?_cons_succ] at ya0 ya1
      have HWA := Lib.hid hwa
      have HGA := Lib.hid hga
      have HYA := Lib.hid hya
      have HPA := Lib.hid hpwa
      have HRA := Lib.hid hra
      have HZA := Lib.hid hza
      clear hwa hga hba hya hpwa hra hza
      by_cases hc255 : cnt ≤ 255
      case neg =>
        have hl1 : LA 1 = [] := by rw [HA1.out, if_neg (by omega)]
        have hd : decide ((255 : Int) < (cnt : Int)) = true := decide_eq_true (by omega)
        have HL1 := Lib.hid hl1
        have hk0 : k = 0 := by rw [HK.out, hA0]; rfl
        have HK0 := Lib.hid hk0
        clear hl1 hc255 hk0
        go_wp2
        rw [← HWA.out]
        go_roundw
        case rel => exact ⟨1, k, Av, cv, by omega, rfl, rfl, hk2, by rw [HL1.out, HK0.out]; rfl, by rw [HL1.out]; have := HPA.out; rw [hA0] at this; exact this, HGA.out⟩
        case measure => simp [intOf]
      have hdc : decide ((255 : Int) < (cnt : Int)) = false := decide_eq_false (by omega)
      have hwc : IntKind.u64.wrap (cnt : Int) = (cnt : Int) := by rw [IntKind.wrap_u64]; omega
      have hwn : IntKind.i64.wrap ((N : Int) + 1) = (N : Int) + 1 := by rw [IntKind.wrap_i64]; omega
      have hc9 := big_calls2 wa.drew (cnt : Int) 1 (by omega) (by omega) (by omega)
      rw [show ((1 : Nat) : Int) = 1 from rfl] at hc9
      have HB9C := Lib.hid hc9
      clear hc9
      have hc0 : decide ((0 : Int) ≤ (cnt : Int)) = true := decide_eq_true (by omega)
      by_cases hfit : N + 1 ≤ 255
      case neg =>
        have hl1 : LA 1 = [] := by rw [HA1.out, if_neg (by unfold lenN; rw [if_pos (by omega)]; omega)]
        have hd : decide ((255 : Int) < (N : Int) + 1) = true := decide_eq_true (by omega)
        have HL1 := Lib.hid hl1
        have hk0 : k = 0 := by rw [HK.out, hA0]; rfl
        have HK0 := Lib.hid hk0
        clear hl1 hfit hk0
        go_wp2
        rw [← HWA.out]
        go_region_law (first
          | (go_simp
             go_at_call 98
             (refine HB9C.out.mono ?_)
             rintro e w9 ⟨A9, c9, rfl, ho9, hb9⟩
             have HB9 : Hid (Below wa.heap.size wa w9) := (Below.refl _ wa).drew.trans hb9
             have HO9 := Lib.hid ho9
             have hy9 := HYA.out.below HB9.out (by have := HZA.out; omega)
             have y90 := hy9.cell 0
             have y91 := hy9.cell 1
             simp only [List.getElem?_cons_zero, List.getElem?_cons_succ] at y90 y91
             have hwz9 : wa.heap.size ≤ w9.heap.size := HB9.out.size
             have HYB := Lib.hid hy9
             have HPB : Hid (PcsW w9 w1.heap.size (LA 0) (.slice Av k cv)) := HPA.out.below HB9.out
             have HRB : Hid (Reads w9 w9.heap.size 1 A N (bs l)) := (HRA.out.below HB9.out).more hwz9
             have HGB : Hid (Below w1.heap.size w1 w9) := HGA.out.trans (HB9.out.mono (by have := HZA.out; omega))
             clear ho9 hb9 hy9))
        all_goals
          dsimp only [Act.put, List.getElem_toArray, List.getElem_cons_succ, List.getElem_cons_zero, List.getElem_cons]
          go_frame
          go_wp2
          go_roundw
          case rel => exact ⟨1, k, Av, cv, by omega, rfl, rfl, hk2, by rw [HL1.out, HK0.out]; rfl, by rw [HL1.out]; have := HPB.out; rw [hA0] at this; exact this, HGB.out⟩
          case measure => simp [intOf]
      have hd : decide ((255 : Int) < (N : Int) + 1) = false := decide_eq_false (by omega)
      have hl1 : LA 1 = LA 0 ++ [(sh, lenD l cnt 1)] := by rw [HA1.out, if_pos (by unfold lenN; rw [if_pos (by omega)]; omega), hA0]; rfl
      have hk1 : k ≤ 1 := by have := HK.out; rw [hA0] at this; simp at this; omega
      have hwr : IntKind.u64.wrap ((N : Int) + 1) = (N : Int) + 1 := by rw [IntKind.wrap_u64]; omega
      have HL1 := Lib.hid hl1
      have hbig : ∀ w9 : World, _ := fun w9 => big_calls2 w9.drew ((N : Int) + 1) 1 (by omega) (by omega) (by omega)
      rw [show ((1 : Nat) : Int) = 1 from rfl] at hbig
      have hlD : lenD l cnt 1 = (be ((N : Int) + 1) 1 ++ be cnt 1) ++ l := by unfold lenD lenN; rw [HN.out, if_pos (by omega), if_pos (by omega)]; rfl
      have hlN : (lenD l cnt 1).length = 2 + N := by rw [hlD, List.length_append, List.length_append, be_length, be_length, HN.out]
      have HBIG := Lib.hid hbig
      have HLD := Lib.hid hlD
      have HLN := Lib.hid hlN
      clear hl1 hbig hlD hlN
      go_wp2
      rw [← HWA.out]
      go_region_law (first
        | (go_simp
           go_at_call 98
           (refine HB9C.out.mono ?_)
           rintro e w9 ⟨A9, c9, rfl, ho9, hb9⟩
           have HB9 : Hid (Below wa.heap.size wa w9) := (Below.refl _ wa).drew.trans hb9
           have HO9 := Lib.hid ho9
           have hy9 := HYA.out.below HB9.out (by have := HZA.out; omega)
           have y90 := hy9.cell 0
           have y91 := hy9.cell 1
           simp only [List.getElem?_cons_zero, List.getElem?_cons_succ] at y90 y91
           have hwz9 : wa.heap.size ≤ w9.heap.size := HB9.out.size
           have HYB := Lib.hid hy9
           have HPB : Hid (PcsW w9 w1.heap.size (LA 0) (.slice Av k cv)) := HPA.out.below HB9.out
           have HRB : Hid (Reads w9 w9.heap.size 1 A N (bs l)) := (HRA.out.below HB9.out).more hwz9
           have HGB : Hid (Below w1.heap.size w1 w9) := HGA.out.trans (HB9.out.mono (by have := HZA.out; omega))
           clear ho9 hb9 hy9))
      all_goals
        dsimp only [Act.put, List.getElem_toArray, List.getElem_cons_succ, List.getElem_cons_zero, List.getElem_cons]
        go_frame
        go_wp2
        go_region_law (first
        | (refine step_append_P (B := w1.heap.size) (L := LA 0) (M := [(sh, lenD l cnt 1)]) (v := .slice Av k cv) rfl (.tmp 52) (.tmp 65) (k + 1) ?_ rfl rfl rfl ?_ HPO.out ?_ (by omega) ?_
           · rw [HK.out]; rfl
           · exact HPA7.out.below ((Below.refl _ w7).alloc (Nat.le_refl _) _)
           · simp; omega
           intro A8 c8 w8 HP8 HG8)
        | (refine step_append_B (B := w9.heap.size) (n := 2) (m := N) (N := 2 + N) (l2 := l) rfl (.tmp 61) (.tmp 62) rfl rfl rfl rfl HO6.out (((HRB.out.below HB6.out).more HB6.out.size)) HB6.out.size (by omega) ?_
           intro A7 c7 w7 HO7 HG7
           have HB7 : Hid (Below w9.heap.size w9 w7) := HB6.out.grown HG7.out HB6.out.size (fun j hj => (HO6.out.lt j hj).1)
           have hb7 := HYB.out.below HB7.out (by have := HZA.out; omega)
           have y70 := hb7.cell 0
           simp only [List.getElem?_cons_zero] at y70
           have HPA7 : Hid (PcsW w7 w1.heap.size (LA 0) (.slice Av k cv)) := HPB.out.below HB7.out
           have HOB7 : Hid (OwnB w7 w1.heap.size (lenD l cnt 1) (.slice A7 (2 + N) c7)) := OwnB.of_own (by rw [HLD.out]; exact own_lowerH HO7.out (by have := HZA.out; omega)) HLN.out
           have hz7 : w1.heap.size ≤ w7.heap.size := by have := HB7.out.size; have := HZA.out; omega
           have HPO := Lib.hid (pcsW_one w7 w1.heap.size (sh, lenD l cnt 1) (.slice A7 (2 + N) c7) hz7 HOB7.out)
           clear hb7 HG7)
        | (refine step_append_B (B := w9.heap.size) (n := 1) (m := 1) (N := 2) (l := be ((N : Int) + 1) 1) (l2 := be cnt 1) rfl (.tmp 59) (.tmp 60) rfl rfl rfl rfl HO5.out ((Reads.of_own (own_belowH HO9.out HB5.out))) HB5.out.size (by omega) ?_
           intro A6 c6 w6 HO6 HG6
           have HB6 : Hid (Below w9.heap.size w9 w6) := HB5.out.grown HG6.out HB5.out.size (fun j hj => (HO5.out.lt j hj).1)
           have hb6 := HYB.out.below HB6.out (by have := HZA.out; omega)
           have y60 := hb6.cell 0
           simp only [List.getElem?_cons_zero] at y60
           clear hb6 HG6)
        | (go_simp
           go_at_call 98
           (refine (HBIG.out w9).mono ?_)
           rintro e w5 ⟨A5, c5, rfl, ho5, hb5⟩
           have HB5 : Hid (Below w9.heap.size w9 w5) := (Below.refl _ w9).drew.trans hb5
           have HO5 := Lib.hid ho5
           have hb5' := HYB.out.below HB5.out (by have := HZA.out; omega)
           have y50 := hb5'.cell 0
           simp only [List.getElem?_cons_zero] at y50
           clear hb5' ho5 hb5))
        all_goals
          have HB8 : Hid (Below w1.heap.size w1 w8) := by
            have hx := HGB.out.trans (HB7.out.mono (by have := HZA.out; omega))
            refine ((hx.alloc hz7 (.cells #[.int .i64 sh, .slice A7 (2 + N) c7] 118))).trans ?_
            refine (Below.refl _ _).grown HG8.out (by simp; omega) (fun j hj => ?_)
            obtain ⟨Ao, co, So, hvo, hSo, hoo, hdo⟩ := HPA7.out
            exact (hoo.lt j hj).1
          dsimp only [Act.put, List.getElem_toArray, List.getElem_cons_succ, List.getElem_cons_zero, List.getElem_cons]
          go_frame
          go_wp2
          go_roundw
          case rel => exact ⟨1, k + 1, A8, c8, by omega, rfl, rfl, by omega, by rw [HL1.out, List.length_append, ← HK.out]; rfl, by rw [HL1.out]; exact HP8.out, HB8.out⟩
          case measure => simp [intOf]
    case inr.inl =>
      obtain ⟨wa, hwa⟩ : ∃ wa, wa = (wr.alloc (.cells #[.int .i64 lo, .int .i64 4] 160)).alloc (.cells #[] 5) := ⟨_, rfl⟩
      have hwl : W.heap.size < wr.heap.size := by omega
      have hga : Below w1.heap.size w1 wa := by rw [hwa]; exact (HG2.out.alloc hwz _).alloc (by simp; omega) _
      have hba : Below wr.heap.size wr wa := by rw [hwa]; exact ((Below.refl _ wr).alloc (Nat.le_refl _) _).alloc (by simp) _
      have hya : Blk wa wr.heap.size 160 [.int .i64 lo, .int .i64 4] := by rw [hwa]; exact (Blk.new wr _ [_, _]).alloc _
      have hpwa := HPW.out.below hba
      have hra := ((HR.out.below (HBW.out.trans (hba.mono (by omega)))).more (show W.heap.size ≤ wa.heap.size by have := hba.size; omega))
      have hza : wr.heap.size + 2 = wa.heap.size := by rw [hwa]; simp
      have ya0 := hya.cell 0
      have ya1 := hya.cell 1
      simp only [List.getElem?_cons_zero, List.getElem?_cons_succ] at ya0 ya1
      have HWA := Lib.hid hwa
      have HGA := Lib.hid hga
      have HYA := Lib.hid hya
      have HPA := Lib.hid hpwa
      have HRA := Lib.hid hra
      have HZA := Lib.hid hza
      clear hwa hga hba hya hpwa hra hza
      have hwc : IntKind.u64.wrap (cnt : Int) = (cnt : Int) := by rw [IntKind.wrap_u64]; omega
      have hwn : IntKind.i64.wrap ((N : Int) + 4) = (N : Int) + 4 := by rw [IntKind.wrap_i64]; omega
      have hc9 := big_calls2 wa.drew (cnt : Int) 4 (by omega) (by omega) (by omega)
      rw [show ((4 : Nat) : Int) = 4 from rfl] at hc9
      have HB9C := Lib.hid hc9
      clear hc9
      have hc0 : decide ((0 : Int) ≤ (cnt : Int)) = true := decide_eq_true (by omega)
      have hl1 : LA 2 = LA 1 ++ [(lo, lenD l cnt 4)] := HA2.out
      have hk1 : k ≤ 1 := by
        rw [HK.out, HA1.out]
        split <;> simp
      have hwr : IntKind.u64.wrap ((N : Int) + 4) = (N : Int) + 4 := by rw [IntKind.wrap_u64]; omega
      have HL1 := Lib.hid hl1
      have hbig : ∀ w9 : World, _ := fun w9 => big_calls2 w9.drew ((N : Int) + 4) 4 (by omega) (by omega) (by omega)
      rw [show ((4 : Nat) : Int) = 4 from rfl] at hbig
      have hlD : lenD l cnt 4 = (be ((N : Int) + 4) 4 ++ be cnt 4) ++ l := by unfold lenD lenN; rw [HN.out, if_pos (by omega), if_pos (by omega)]; rfl
      have hlN : (lenD l cnt 4).length = 8 + N := by rw [hlD, List.length_append, List.length_append, be_length, be_length, HN.out]
      have HBIG := Lib.hid hbig
      have HLD := Lib.hid hlD
      have HLN := Lib.hid hlN
      clear hl1 hbig hlD hlN
      go_wp2
      rw [← HWA.out]
      go_region_law (first
        | (go_simp
           go_at_call 98
           (refine HB9C.out.mono ?_)
           rintro e w9 ⟨A9, c9, rfl, ho9, hb9⟩
           have HB9 : Hid (Below wa.heap.size wa w9) := (Below.refl _ wa).drew.trans hb9
           have HO9 := Lib.hid ho9
           have hy9 := HYA.out.below HB9.out (by have := HZA.out; omega)
           have y90 := hy9.cell 0
           have y91 := hy9.cell 1
           simp only [List.getElem?_cons_zero, List.getElem?_cons_succ] at y90 y91
           have hwz9 : wa.heap.size ≤ w9.heap.size := HB9.out.size
           have HYB := Lib.hid hy9
           have HPB : Hid (PcsW w9 w1.heap.size (LA 1) (.slice Av k cv)) := HPA.out.below HB9.out
           have HRB : Hid (Reads w9 w9.heap.size 1 A N (bs l)) := (HRA.out.below HB9.out).more hwz9
           have HGB : Hid (Below w1.heap.size w1 w9) := HGA.out.trans (HB9.out.mono (by have := HZA.out; omega))
           clear ho9 hb9 hy9))
      all_goals
        dsimp only [Act.put, List.getElem_toArray, List.getElem_cons_succ, List.getElem_cons_zero, List.getElem_cons]
        go_frame
        go_wp2
        go_region_law (first
        | (refine step_append_P (B := w1.heap.size) (L := LA 1) (M := [(lo, lenD l cnt 4)]) (v := .slice Av k cv) rfl (.tmp 52) (.tmp 65) (k + 1) ?_ rfl rfl rfl ?_ HPO.out ?_ (by omega) ?_
           · rw [HK.out]; rfl
           · exact HPA7.out.below ((Below.refl _ w7).alloc (Nat.le_refl _) _)
           · simp; omega
           intro A8 c8 w8 HP8 HG8)
        | (refine step_append_B (B := w9.heap.size) (n := 8) (m := N) (N := 8 + N) (l2 := l) rfl (.tmp 61) (.tmp 62) rfl rfl rfl rfl HO6.out (((HRB.out.below HB6.out).more HB6.out.size)) HB6.out.size (by omega) ?_
           intro A7 c7 w7 HO7 HG7
           have HB7 : Hid (Below w9.heap.size w9 w7) := HB6.out.grown HG7.out HB6.out.size (fun j hj => (HO6.out.lt j hj).1)
           have hb7 := HYB.out.below HB7.out (by have := HZA.out; omega)
           have y70 := hb7.cell 0
           simp only [List.getElem?_cons_zero] at y70
           have HPA7 : Hid (PcsW w7 w1.heap.size (LA 1) (.slice Av k cv)) := HPB.out.below HB7.out
           have HOB7 : Hid (OwnB w7 w1.heap.size (lenD l cnt 4) (.slice A7 (8 + N) c7)) := OwnB.of_own (by rw [HLD.out]; exact own_lowerH HO7.out (by have := HZA.out; omega)) HLN.out
           have hz7 : w1.heap.size ≤ w7.heap.size := by have := HB7.out.size; have := HZA.out; omega
           have HPO := Lib.hid (pcsW_one w7 w1.heap.size (lo, lenD l cnt 4) (.slice A7 (8 + N) c7) hz7 HOB7.out)
           clear hb7 HG7)
        | (refine step_append_B (B := w9.heap.size) (n := 4) (m := 4) (N := 8) (l := be ((N : Int) + 4) 4) (l2 := be cnt 4) rfl (.tmp 59) (.tmp 60) rfl rfl rfl rfl HO5.out ((Reads.of_own (own_belowH HO9.out HB5.out))) HB5.out.size (by omega) ?_
           intro A6 c6 w6 HO6 HG6
           have HB6 : Hid (Below w9.heap.size w9 w6) := HB5.out.grown HG6.out HB5.out.size (fun j hj => (HO5.out.lt j hj).1)
           have hb6 := HYB.out.below HB6.out (by have := HZA.out; omega)
           have y60 := hb6.cell 0
           simp only [List.getElem?_cons_zero] at y60
           clear hb6 HG6)
        | (go_simp
           go_at_call 98
           (refine (HBIG.out w9).mono ?_)
           rintro e w5 ⟨A5, c5, rfl, ho5, hb5⟩
           have HB5 : Hid (Below w9.heap.size w9 w5) := (Below.refl _ w9).drew.trans hb5
           have HO5 := Lib.hid ho5
           have hb5' := HYB.out.below HB5.out (by have := HZA.out; omega)
           have y50 := hb5'.cell 0
           simp only [List.getElem?_cons_zero] at y50
           clear hb5' ho5 hb5))
        all_goals
          have HB8 : Hid (Below w1.heap.size w1 w8) := by
            have hx := HGB.out.trans (HB7.out.mono (by have := HZA.out; omega))
            refine ((hx.alloc hz7 (.cells #[.int .i64 lo, .slice A7 (8 + N) c7] 118))).trans ?_
            refine (Below.refl _ _).grown HG8.out (by simp; omega) (fun j hj => ?_)
            obtain ⟨Ao, co, So, hvo, hSo, hoo, hdo⟩ := HPA7.out
            exact (hoo.lt j hj).1
          dsimp only [Act.put, List.getElem_toArray, List.getElem_cons_succ, List.getElem_cons_zero, List.getElem_cons]
          go_frame
          go_wp2
          go_roundw
          case rel => exact ⟨2, k + 1, A8, c8, by omega, rfl, rfl, by omega, by rw [HL1.out, List.length_append, ← HK.out]; rfl, by rw [HL1.out]; exact HP8.out, HB8.out⟩
          case measure => simp [intOf]
end Go.Proofs.YtjjhckbidcdkcaaDoor
