/- Forms.putInt at a number that is not below 0. PRINTED by wip/genpe3.py. -/
import Derived.Test.YtfhaddnacdjpoaaDoorPe
namespace Go.Proofs.YtfhaddnacdjpoaaDoor
open Go.RowKit
set_option linter.unusedVariables false

theorem own_neP {w : World} {base n g : Nat} {e t : TypeId} {size : Nat} {v : Value} {xs : List Value} {cs : List Value} (h : w.ownsRow base e size v n xs) (hg : Blk w g t cs) (hne : e ≠ t) : v.ownBlock ≠ some g := by
  intro hv
  rcases h.2 with ⟨rfl, _⟩ | ⟨g', cap, cur, rfl, _, hb, _⟩
  · simp [Value.ownBlock] at hv
  · simp [Value.ownBlock] at hv
    subst hv
    have h1 := hb.symm.trans hg
    injection h1 with h1
    injection h1 with _ h2
    exact hne h2
theorem mem_take_flat (K : List (Int × Nat)) (k : Nat) (h : k < K.length) : K[k] ∈ K := List.getElem_mem h

theorem wantsF_litB (w : World) : WantsF (w.alloc (.cells #[.int .i64 204, .int .i64 1, .int .i64 205, .int .i64 2, .int .i64 206, .int .i64 4, .int .i64 207, .int .i64 8] 62)) (w.alloc (.cells #[.int .i64 204, .int .i64 1, .int .i64 205, .int .i64 2, .int .i64 206, .int .i64 4, .int .i64 207, .int .i64 8] 62)).heap.size (some ⟨w.heap.size, 0, none⟩) [(204, 1), (205, 2), (206, 4), (207, 8)] := by
  have h := wantsF_lit w [(204, 1), (205, 2), (206, 4), (207, 8)]
  exact h.more (by simp)
set_option maxHeartbeats 8000000 in
set_option maxRecDepth 100000 in
theorem putInt_pos (w : World) (gf : Nat) (st n : Int) (sh sg : Bool) (hb : Blk w gf 34 [.int .u64 st, .bool sh]) (h0 : 0 ≤ n) (h1 : n ≤ 18446744073709551615) (hsg : sg = true → n < 9223372036854775808) :
    Calls Tryd.prog 21 #[.pointer (some ⟨gf, 0, none⟩), .int .u64 n, .bool sg] w (PutH gf sh (IntF n) w) := by
  have hgf := hb.lt
  have hng : sg = false ∨ (sg = true ∧ wrap64 n = n) := by
    cases sg
    · exact .inl rfl
    · have := hsg rfl
      exact .inr ⟨rfl, by unfold wrap64; omega⟩
  have HB := Lib.hid hb
  clear hb hsg
  by_cases h128 : n < 128
  · rcases hng with rfl | ⟨rfl, hw64⟩
    all_goals
      go_enter Tryd.func21, Tryd.ntmps21
      go_wp2_with (first
        | ((at_builtin)
           go_must (
             (refine wpList_push (B := w.heap.size) (F := IntF n) rfl (.tmp 65) (.tmp 69) rfl (w.alloc (.cells #[.int .u8 n] 5)) rfl _ (by simp) rfl rfl (MS.nil _ _ _) ?_ (by simp) (by omega) ?_
              · refine ⟨w.heap.size, [.int .u8 n], [n], rfl, Blk.new w _ [_], by simp, by simp [maxLen], ?_, .inl ⟨h0, h128, rfl⟩, Nat.le_refl _⟩
                simp [bs]
              intro A1 c1 w2 HM2 hg2
              have hbel2 : Below w.heap.size w w2 := (((Below.refl _ w).alloc (Nat.le_refl _) _).alloc (by simp) _).grown hg2.out.1 (by simp; omega) (fun j hj => (hg2.out.2 j hj).1)
              have HBEL2 := Lib.hid hbel2
              clear hbel2 hg2)))
        | (go_at_call 36
           go_must (
             (refine (sizes_calls _ n _ 4 [(204, 1), (205, 2), (206, 4), (207, 8)] h0 h1 (wantsF_litB w2) (by simp) (by simp)).mono ?_)
             rintro e w3 ⟨AK, cK, rfl, hownK, hbel3⟩
             have hb3 : Below w.heap.size w w3 := (HBEL2.out.alloc HBEL2.out.size _).trans (hbel3.mono (by have := HBEL2.out.size; simp; omega))
             obtain ⟨K, hK⟩ : ∃ K, K = ([(204, 1), (205, 2), (206, 4), (207, 8)] : List (Int × Nat)).filter (okF n) := ⟨_, rfl⟩
             rw [← hK] at hownK ⊢
             have hKP : ∀ p ∈ K, p ∈ ([(204, 1), (205, 2), (206, 4), (207, 8)] : List (Int × Nat)) ∧ okF n p = true := fun p hp => by rw [hK] at hp; exact List.mem_filter.1 hp
             have hK4 : K.length ≤ 4 := by rw [hK]; exact Nat.le_trans (List.length_filter_le _ _) (by simp)
             have hK0 : 0 < K.length := by
               rw [hK]
               apply List.length_pos_of_mem (a := (207, 8))
               exact List.mem_filter.2 ⟨by simp, by simp [okF]⟩
             have hownK2 := own_lower (B' := w.heap.size) hownK (by have := HBEL2.out.size; simp; omega)
             have hms3 := HM2.out.below (((Below.refl _ w2).alloc (Nat.le_refl _) _).trans (hbel3.mono (by simp)))
             have HK := Lib.hid hK
             have HKP := Lib.hid hKP
             have HOWNK := Lib.hid hownK2
             have HB3 := Lib.hid hb3
             have HMS3 := Lib.hid hms3
             clear hK hKP hownK hownK2 hb3 hbel3 hms3)))
      go_loopw [11, 79] (fun v i wr => ∃ (k N c : Nat) (A : Option Addr), k ≤ K.length ∧ i = .int .i64 k ∧ v = .slice A N c ∧ N ≤ k + 1 ∧ k ≤ N ∧ Hid (MS wr w.heap.size (IntF n) (.slice A N c) N) ∧ Hid (Below w.heap.size w wr) ∧ Hid (wr.ownsRow w.heap.size 62 2 (.slice AK K.length cK) K.length (K.flatMap cF))) (fun _ i _ => K.length - (intOf i).toNat)
      case atStart => exact ⟨0, 1, c1, A1, by omega, rfl, rfl, by omega, by omega, HMS3, HB3, HOWNK⟩
      case round =>
        obtain ⟨k, N, c, A, hk, rfl, rfl, hNk, hkN, HM, HBEL, HOK⟩ := hrel
        have hwz : w.heap.size ≤ wr.heap.size := HBEL.out.size
        by_cases hlt : k < K.length
        · obtain ⟨gK, hAK, hgKB, hcK⟩ := wantsF_own HOK.out (by omega)
          subst hAK
          obtain ⟨c0, c1⟩ := hcK k hlt
          obtain ⟨hpf, hpo⟩ := HKP.out _ (mem_take_flat K k hlt)
          generalize K[k] = p at *
          obtain ⟨code, s⟩ := p
          have hcs : 0 ≤ code ∧ code ≤ 255 ∧ s ≤ 8 := by
            simp only [List.mem_cons, List.not_mem_nil, or_false, Prod.mk.injEq] at hpf
            omega
          obtain ⟨hcs0, hcs1, hcs2⟩ := hcs
          simp only at c0 c1
          have HPF := Lib.hid hpf
          have HPO := Lib.hid hpo
          clear hcK hpf hpo
          go_wp2_with (first
            | (go_at_call 22
               go_must (
                 (refine (headed_calls _ n code s h0 h1 hcs2 hcs0 hcs1).mono ?_)
                 rintro e w4 ⟨A4, c4, rfl, hown4, hbel4⟩
                 have hb4 : Below wr.heap.size wr w4 := ((Below.refl _ wr).alloc (Nat.le_refl _) _).trans (hbel4.mono (by simp))
                 have he4 : El w4 w.heap.size (IntF n) (.slice A4 (code :: be n s).length c4) := El.own (own_lower hown4 (by simp; omega)) (by simp) (.inr (.inr (.inl ⟨_, HPF.out, HPO.out, h0, rfl⟩)))
                 obtain ⟨N4, hN4⟩ : ∃ N4, N4 = (code :: be n s).length := ⟨_, rfl⟩
                 rw [← hN4] at he4 ⊢
                 have hm4 := HM.out.below hb4
                 have hwz4 : w.heap.size ≤ w4.heap.size := Nat.le_trans hwz hb4.size
                 have HB4 := Lib.hid hb4
                 have HE4 := Lib.hid he4
                 have HM4 := Lib.hid hm4
                 have HN4 := Lib.hid hN4
                 clear hb4 he4 hm4 hown4 hbel4 hN4 c0 c1))
            | ((at_builtin)
               go_must (
                 (refine wpList_push (B := w.heap.size) (F := IntF n) rfl (.tmp 83) (.tmp 87) rfl w4 rfl _ rfl rfl rfl HM4.out HE4.out (by omega) (by omega) ?_)
                 intro A5 c5 w5 HM5 hg5
                 have hbel5 : Below w.heap.size w w5 := ((HBEL.out.trans (HB4.out.mono hwz)).alloc (by omega) _).grown hg5.out.1 (by simp; omega) (fun j hj => (hg5.out.2 j hj).1)
                 have hok4 := HOK.out.kept (belowP_grown HB4.out none) (by simp [Value.ownBlock])
                 have hok5 := (hok4.alloc _).kept hg5.out.1 (.inr (fun e => by
                   obtain ⟨_, cs, hc⟩ := hg5.out.2 gK (by rw [← e]; rfl)
                   exact own_neP (hok4.alloc _) hc (by decide) rfl))
                 have HBEL5 := Lib.hid hbel5
                 have HOK5 := Lib.hid hok5
                 clear hbel5 hok4 hok5 hg5)))
          go_roundw
          case rel => exact ⟨k + 1, N + 1, c5, A5, by omega, by go_num, rfl, by omega, by omega, HM5, HBEL5, HOK5⟩
          case measure => simp [intOf]; omega
        · obtain rfl : k = K.length := by omega
          have hNpos : 0 < N := by omega
          clear HOK
          obtain ⟨wq, rfl⟩ : ∃ wq, wq = wr := ⟨_, rfl⟩
          go_wp2
          go_loopw [11, 92] (fun v i wr => ∃ (k N c : Nat) (A : Option Addr), k ≤ 4 ∧ i = .int .i64 k ∧ v = .slice A N c ∧ N ≤ k + 6 ∧ (0 ≤ k → 0 < N) ∧ Hid (MS wr w.heap.size (IntF n) (.slice A N c) N) ∧ Hid (Below w.heap.size w wr) ∧ Hid (Blk wr wq.heap.size 3 [.int .i64 1, .int .i64 2, .int .i64 4, .int .i64 8])) (fun _ i _ => 4 - (intOf i).toNat)
          case atStart => exact ⟨0, N, c, A, by omega, rfl, rfl, by omega, fun h => by omega, HM.out.below ((Below.refl _ wq).alloc (Nat.le_refl _) _), HBEL.out.alloc (HBEL.out.size) _, Blk.new wq _ [_, _, _, _]⟩
          case round =>
            obtain ⟨k, N, c, A, hk, rfl, rfl, hNk, hN4, HM, HBEL, HL⟩ := hrel
            have hwz : w.heap.size ≤ wr.heap.size := HBEL.out.size
            have hNp := hN4 (Nat.zero_le _)
            have l0 := HL.out.cell 0
            have l1 := HL.out.cell 1
            have l2 := HL.out.cell 2
            have l3 := HL.out.cell 3
            simp only [List.getElem?_cons_zero, List.getElem?_cons_succ] at l0 l1 l2 l3
            by_cases hlt : k < 4
            · have hkc : k = 0 ∨ k = 1 ∨ k = 2 ∨ k = 3 := by omega
              rcases hkc with rfl | rfl | rfl | rfl
              · by_cases hcd : n < 128
                · skip
                  go_wp2_with (first
                    | (go_at_call 34
                       go_must (
                         (refine (big_calls2 _ n 1 (by omega) (by omega) (by omega)).mono ?_)
                         rintro e w3 ⟨A3, c3, rfl, hown3, hbel3⟩
                         have hlit : Blk w3 wr.heap.size 5 [.int .u8 208] := (Blk.new wr _ [_]).below hbel3 (by simp)
                         have hb3 : Below wr.heap.size wr w3 := ((Below.refl _ wr).alloc (Nat.le_refl _) _).trans (hbel3.mono (by simp))
                         have HLIT := Lib.hid hlit
                         have HB3 := Lib.hid hb3
                         have HOWN3 := Lib.hid hown3
                         clear hlit hb3 hown3 hbel3))
                    | ((at_builtin)
                       go_must (first
                         | ((refine wpList_push (B := w.heap.size) (F := IntF n) rfl (.tmp 103) (.tmp 112) rfl w4 rfl _ rfl rfl rfl HM4.out HE4.out (by omega) (by omega) ?_)
                            intro A5 c5 w5 HM5 hg5
                            have hbel5 : Below w.heap.size w w5 := ((HBEL.out.trans (HB4.out.mono hwz)).alloc (by omega) _).grown hg5.out.1 (by simp; omega) (fun j hj => (hg5.out.2 j hj).1)
                            have hl5 : Blk w5 wq.heap.size 3 _ := ((HL.out.below HB4.out HL.out.lt).alloc _).grown hg5.out.1 (fun e => by obtain ⟨_, cs, hc⟩ := hg5.out.2 _ e.symm; exact hc.ne_ ((HL.out.below HB4.out HL.out.lt).alloc _) (by decide) rfl)
                            have HBEL5 := Lib.hid hbel5
                            have HL5 := Lib.hid hl5
                            clear hbel5 hl5 hg5)
                         | ((refine wpList_lit (B := w.heap.size) (x := 208) (l := be n 1) rfl (.tmp 107) (.tmp 110) rfl rfl rfl HLIT.out hwz (Reads.of_own HOWN3.out) (be_length _ _) (by omega) ?_)
                            intro A4 c4 N4 w4 HN4 HO4 HG4
                            have hb4 : Below wr.heap.size wr w4 := HB3.out.grown HG4.out HB3.out.size (fun j hj => by injection hj with hj; omega)
                            have he4 : El w4 w.heap.size (IntF n) (.slice A4 N4 c4) := by
                              have hn4 := HN4.out
                              subst hn4
                              exact El.own HO4.out (by simp) (.inr (.inr (.inr ⟨(208, 1), by simp, by simp only [Nat.reduceMul, Nat.reduceSub, Int.reducePow]; omega, by simp only [Nat.reduceMul, Nat.reduceSub, Int.reducePow]; omega, rfl⟩)))
                            have hm4 := HM.out.below hb4
                            have hwz4 : w.heap.size ≤ w4.heap.size := Nat.le_trans hwz hb4.size
                            have HB4 := Lib.hid hb4
                            have HE4 := Lib.hid he4
                            have HM4 := Lib.hid hm4
                            clear hb4 he4 hm4 HG4))))
                  go_roundw
                  case rel => exact ⟨1, N + 1, c5, A5, by omega, by first | rfl | go_num, rfl, by omega, fun _ => by omega, HM5, HBEL5, HL5⟩
                  case measure => simp [intOf]
                · exact absurd (show _ by omega) hcd
              · by_cases hcd : n < 32768
                · skip
                  go_wp2_with (first
                    | (go_at_call 34
                       go_must (
                         (refine (big_calls2 _ n 2 (by omega) (by omega) (by omega)).mono ?_)
                         rintro e w3 ⟨A3, c3, rfl, hown3, hbel3⟩
                         have hlit : Blk w3 wr.heap.size 5 [.int .u8 209] := (Blk.new wr _ [_]).below hbel3 (by simp)
                         have hb3 : Below wr.heap.size wr w3 := ((Below.refl _ wr).alloc (Nat.le_refl _) _).trans (hbel3.mono (by simp))
                         have HLIT := Lib.hid hlit
                         have HB3 := Lib.hid hb3
                         have HOWN3 := Lib.hid hown3
                         clear hlit hb3 hown3 hbel3))
                    | ((at_builtin)
                       go_must (first
                         | ((refine wpList_push (B := w.heap.size) (F := IntF n) rfl (.tmp 103) (.tmp 112) rfl w4 rfl _ rfl rfl rfl HM4.out HE4.out (by omega) (by omega) ?_)
                            intro A5 c5 w5 HM5 hg5
                            have hbel5 : Below w.heap.size w w5 := ((HBEL.out.trans (HB4.out.mono hwz)).alloc (by omega) _).grown hg5.out.1 (by simp; omega) (fun j hj => (hg5.out.2 j hj).1)
                            have hl5 : Blk w5 wq.heap.size 3 _ := ((HL.out.below HB4.out HL.out.lt).alloc _).grown hg5.out.1 (fun e => by obtain ⟨_, cs, hc⟩ := hg5.out.2 _ e.symm; exact hc.ne_ ((HL.out.below HB4.out HL.out.lt).alloc _) (by decide) rfl)
                            have HBEL5 := Lib.hid hbel5
                            have HL5 := Lib.hid hl5
                            clear hbel5 hl5 hg5)
                         | ((refine wpList_lit (B := w.heap.size) (x := 209) (l := be n 2) rfl (.tmp 107) (.tmp 110) rfl rfl rfl HLIT.out hwz (Reads.of_own HOWN3.out) (be_length _ _) (by omega) ?_)
                            intro A4 c4 N4 w4 HN4 HO4 HG4
                            have hb4 : Below wr.heap.size wr w4 := HB3.out.grown HG4.out HB3.out.size (fun j hj => by injection hj with hj; omega)
                            have he4 : El w4 w.heap.size (IntF n) (.slice A4 N4 c4) := by
                              have hn4 := HN4.out
                              subst hn4
                              exact El.own HO4.out (by simp) (.inr (.inr (.inr ⟨(209, 2), by simp, by simp only [Nat.reduceMul, Nat.reduceSub, Int.reducePow]; omega, by simp only [Nat.reduceMul, Nat.reduceSub, Int.reducePow]; omega, rfl⟩)))
                            have hm4 := HM.out.below hb4
                            have hwz4 : w.heap.size ≤ w4.heap.size := Nat.le_trans hwz hb4.size
                            have HB4 := Lib.hid hb4
                            have HE4 := Lib.hid he4
                            have HM4 := Lib.hid hm4
                            clear hb4 he4 hm4 HG4))))
                  go_roundw
                  case rel => exact ⟨2, N + 1, c5, A5, by omega, by first | rfl | go_num, rfl, by omega, fun _ => by omega, HM5, HBEL5, HL5⟩
                  case measure => simp [intOf]
                · exact absurd (show _ by omega) hcd
              · by_cases hcd : n < 2147483648
                · skip
                  go_wp2_with (first
                    | (go_at_call 34
                       go_must (
                         (refine (big_calls2 _ n 4 (by omega) (by omega) (by omega)).mono ?_)
                         rintro e w3 ⟨A3, c3, rfl, hown3, hbel3⟩
                         have hlit : Blk w3 wr.heap.size 5 [.int .u8 210] := (Blk.new wr _ [_]).below hbel3 (by simp)
                         have hb3 : Below wr.heap.size wr w3 := ((Below.refl _ wr).alloc (Nat.le_refl _) _).trans (hbel3.mono (by simp))
                         have HLIT := Lib.hid hlit
                         have HB3 := Lib.hid hb3
                         have HOWN3 := Lib.hid hown3
                         clear hlit hb3 hown3 hbel3))
                    | ((at_builtin)
                       go_must (first
                         | ((refine wpList_push (B := w.heap.size) (F := IntF n) rfl (.tmp 103) (.tmp 112) rfl w4 rfl _ rfl rfl rfl HM4.out HE4.out (by omega) (by omega) ?_)
                            intro A5 c5 w5 HM5 hg5
                            have hbel5 : Below w.heap.size w w5 := ((HBEL.out.trans (HB4.out.mono hwz)).alloc (by omega) _).grown hg5.out.1 (by simp; omega) (fun j hj => (hg5.out.2 j hj).1)
                            have hl5 : Blk w5 wq.heap.size 3 _ := ((HL.out.below HB4.out HL.out.lt).alloc _).grown hg5.out.1 (fun e => by obtain ⟨_, cs, hc⟩ := hg5.out.2 _ e.symm; exact hc.ne_ ((HL.out.below HB4.out HL.out.lt).alloc _) (by decide) rfl)
                            have HBEL5 := Lib.hid hbel5
                            have HL5 := Lib.hid hl5
                            clear hbel5 hl5 hg5)
                         | ((refine wpList_lit (B := w.heap.size) (x := 210) (l := be n 4) rfl (.tmp 107) (.tmp 110) rfl rfl rfl HLIT.out hwz (Reads.of_own HOWN3.out) (be_length _ _) (by omega) ?_)
                            intro A4 c4 N4 w4 HN4 HO4 HG4
                            have hb4 : Below wr.heap.size wr w4 := HB3.out.grown HG4.out HB3.out.size (fun j hj => by injection hj with hj; omega)
                            have he4 : El w4 w.heap.size (IntF n) (.slice A4 N4 c4) := by
                              have hn4 := HN4.out
                              subst hn4
                              exact El.own HO4.out (by simp) (.inr (.inr (.inr ⟨(210, 4), by simp, by simp only [Nat.reduceMul, Nat.reduceSub, Int.reducePow]; omega, by simp only [Nat.reduceMul, Nat.reduceSub, Int.reducePow]; omega, rfl⟩)))
                            have hm4 := HM.out.below hb4
                            have hwz4 : w.heap.size ≤ w4.heap.size := Nat.le_trans hwz hb4.size
                            have HB4 := Lib.hid hb4
                            have HE4 := Lib.hid he4
                            have HM4 := Lib.hid hm4
                            clear hb4 he4 hm4 HG4))))
                  go_roundw
                  case rel => exact ⟨3, N + 1, c5, A5, by omega, by first | rfl | go_num, rfl, by omega, fun _ => by omega, HM5, HBEL5, HL5⟩
                  case measure => simp [intOf]
                · exact absurd (show _ by omega) hcd
              · by_cases hcd : n < 9223372036854775808
                · skip
                  go_wp2_with (first
                    | (go_at_call 34
                       go_must (
                         (refine (big_calls2 _ n 8 (by omega) (by omega) (by omega)).mono ?_)
                         rintro e w3 ⟨A3, c3, rfl, hown3, hbel3⟩
                         have hlit : Blk w3 wr.heap.size 5 [.int .u8 211] := (Blk.new wr _ [_]).below hbel3 (by simp)
                         have hb3 : Below wr.heap.size wr w3 := ((Below.refl _ wr).alloc (Nat.le_refl _) _).trans (hbel3.mono (by simp))
                         have HLIT := Lib.hid hlit
                         have HB3 := Lib.hid hb3
                         have HOWN3 := Lib.hid hown3
                         clear hlit hb3 hown3 hbel3))
                    | ((at_builtin)
                       go_must (first
                         | ((refine wpList_push (B := w.heap.size) (F := IntF n) rfl (.tmp 103) (.tmp 112) rfl w4 rfl _ rfl rfl rfl HM4.out HE4.out (by omega) (by omega) ?_)
                            intro A5 c5 w5 HM5 hg5
                            have hbel5 : Below w.heap.size w w5 := ((HBEL.out.trans (HB4.out.mono hwz)).alloc (by omega) _).grown hg5.out.1 (by simp; omega) (fun j hj => (hg5.out.2 j hj).1)
                            have hl5 : Blk w5 wq.heap.size 3 _ := ((HL.out.below HB4.out HL.out.lt).alloc _).grown hg5.out.1 (fun e => by obtain ⟨_, cs, hc⟩ := hg5.out.2 _ e.symm; exact hc.ne_ ((HL.out.below HB4.out HL.out.lt).alloc _) (by decide) rfl)
                            have HBEL5 := Lib.hid hbel5
                            have HL5 := Lib.hid hl5
                            clear hbel5 hl5 hg5)
                         | ((refine wpList_lit (B := w.heap.size) (x := 211) (l := be n 8) rfl (.tmp 107) (.tmp 110) rfl rfl rfl HLIT.out hwz (Reads.of_own HOWN3.out) (be_length _ _) (by omega) ?_)
                            intro A4 c4 N4 w4 HN4 HO4 HG4
                            have hb4 : Below wr.heap.size wr w4 := HB3.out.grown HG4.out HB3.out.size (fun j hj => by injection hj with hj; omega)
                            have he4 : El w4 w.heap.size (IntF n) (.slice A4 N4 c4) := by
                              have hn4 := HN4.out
                              subst hn4
                              exact El.own HO4.out (by simp) (.inr (.inr (.inr ⟨(211, 8), by simp, by simp only [Nat.reduceMul, Nat.reduceSub, Int.reducePow]; omega, by simp only [Nat.reduceMul, Nat.reduceSub, Int.reducePow]; omega, rfl⟩)))
                            have hm4 := HM.out.below hb4
                            have hwz4 : w.heap.size ≤ w4.heap.size := Nat.le_trans hwz hb4.size
                            have HB4 := Lib.hid hb4
                            have HE4 := Lib.hid he4
                            have HM4 := Lib.hid hm4
                            clear hb4 he4 hm4 HG4))))
                  go_roundw
                  case rel => exact ⟨4, N + 1, c5, A5, by omega, by first | rfl | go_num, rfl, by omega, fun _ => by omega, HM5, HBEL5, HL5⟩
                  case measure => simp [intOf]
                · exact absurd (show _ by omega) hcd
            · obtain rfl : k = 4 := by omega
              have hN := hN4 (Nat.zero_le _)
              go_wp2_with (
                (go_at_call 35)
                go_must (
                  (refine (pick_calls wr gf N st sh (HB.out.below HBEL.out hgf) hN (by omega)).mono ?_)
                  rintro e w4 ⟨j, st4, rfl, hj, hb4, hg4⟩
                  obtain ⟨xs, hown, hxs⟩ := HM.out
                  have hown4 := hown.kept hg4 (.inr (fun e => by have := (hown.lt gf e).1; omega))
                  have hlen : xs.length = N := by have := hown.1; omega
                  obtain ⟨g5, cs5, hv5, hb5, hB5, hn5, hm5, ht5⟩ := own_blk hown4 (.inl hN)
                  have hxj := hxs xs[j] (List.getElem_mem (by omega))
                  have hcell := hb5.cell j
                  have hxe : cs5[j]? = some xs[j] := by
                    have h1 : (cs5.take N)[j]? = xs[j]? := by rw [ht5]
                    rw [List.getElem?_take, if_pos hj, List.getElem?_eq_getElem (show j < xs.length by omega)] at h1
                    exact h1
                  rw [hxe] at hcell
                  have hel4 := hxj.grown hg4 (fun k hk => by injection hk with hk; subst hk; exact ⟨_, _, HB.out.below HBEL.out hgf, by decide⟩)
                  generalize xs[j] = xv at *
                  obtain ⟨g6, cs6, e6, rfl, hb6, hn6, hm6, ht6, hf6, hB6⟩ := hel4
                  injection hv5 with ev1 ev2 ev3
                  subst ev1
                  subst ev3
                  have HB4 := Lib.hid hb4
                  have HG4 := Lib.hid hg4
                  have HB6 := Lib.hid hb6
                  have HF6 := Lib.hid hf6
                  have HT6 := Lib.hid ht6
                  clear hown hxs hown4 hb5 ht5 hxj hxe hb4 hg4 hb6 hf6 ht6 hlen l0 l1 l2 l3))
              go_ret
              exact ⟨e6, _, _, st4, rfl, HF6.out, by rw [← HT6.out]; exact blk_own HB6.out hB6 hn6 hm6, HB4.out, grownP_trans (belowP_grown HBEL.out _) HG4.out⟩
  · have h128d : decide (n < 128) = false := decide_eq_false h128
    rcases hng with rfl | ⟨rfl, hw64⟩
    all_goals
      go_enter Tryd.func21, Tryd.ntmps21
      go_wp2_with (
        (go_at_call 36
         go_must (
           (refine (sizes_calls _ n _ 4 [(204, 1), (205, 2), (206, 4), (207, 8)] h0 h1 (wantsF_litB w) (by simp) (by simp)).mono ?_)
           rintro e w3 ⟨AK, cK, rfl, hownK, hbel3⟩
           have hb3 : Below w.heap.size w w3 := ((Below.refl _ w).alloc (Nat.le_refl _) _).trans (hbel3.mono (by simp))
           obtain ⟨K, hK⟩ : ∃ K, K = ([(204, 1), (205, 2), (206, 4), (207, 8)] : List (Int × Nat)).filter (okF n) := ⟨_, rfl⟩
           rw [← hK] at hownK ⊢
           have hKP : ∀ p ∈ K, p ∈ ([(204, 1), (205, 2), (206, 4), (207, 8)] : List (Int × Nat)) ∧ okF n p = true := fun p hp => by rw [hK] at hp; exact List.mem_filter.1 hp
           have hK4 : K.length ≤ 4 := by rw [hK]; exact Nat.le_trans (List.length_filter_le _ _) (by simp)
           have hK0 : 0 < K.length := by
             rw [hK]
             apply List.length_pos_of_mem (a := (207, 8))
             exact List.mem_filter.2 ⟨by simp, by simp [okF]⟩
           have hownK2 := own_lower (B' := w.heap.size) hownK (by simp)
           have hms3 := (trivial : True)
           have HK := Lib.hid hK
           have HKP := Lib.hid hKP
           have HOWNK := Lib.hid hownK2
           have HB3 := Lib.hid hb3
           have HMS3 := Lib.hid hms3
           clear hK hKP hownK hownK2 hb3 hbel3 hms3)))
      go_loopw [11, 79] (fun v i wr => ∃ (k N c : Nat) (A : Option Addr), k ≤ K.length ∧ i = .int .i64 k ∧ v = .slice A N c ∧ N ≤ k + 1 ∧ k ≤ N ∧ Hid (MS wr w.heap.size (IntF n) (.slice A N c) N) ∧ Hid (Below w.heap.size w wr) ∧ Hid (wr.ownsRow w.heap.size 62 2 (.slice AK K.length cK) K.length (K.flatMap cF))) (fun _ i _ => K.length - (intOf i).toNat)
      case atStart => exact ⟨0, 0, 0, none, by omega, rfl, rfl, by omega, by omega, MS.nil _ _ _, HB3, HOWNK⟩
      case round =>
        obtain ⟨k, N, c, A, hk, rfl, rfl, hNk, hkN, HM, HBEL, HOK⟩ := hrel
        have hwz : w.heap.size ≤ wr.heap.size := HBEL.out.size
        by_cases hlt : k < K.length
        · obtain ⟨gK, hAK, hgKB, hcK⟩ := wantsF_own HOK.out (by omega)
          subst hAK
          obtain ⟨c0, c1⟩ := hcK k hlt
          obtain ⟨hpf, hpo⟩ := HKP.out _ (mem_take_flat K k hlt)
          generalize K[k] = p at *
          obtain ⟨code, s⟩ := p
          have hcs : 0 ≤ code ∧ code ≤ 255 ∧ s ≤ 8 := by
            simp only [List.mem_cons, List.not_mem_nil, or_false, Prod.mk.injEq] at hpf
            omega
          obtain ⟨hcs0, hcs1, hcs2⟩ := hcs
          simp only at c0 c1
          have HPF := Lib.hid hpf
          have HPO := Lib.hid hpo
          clear hcK hpf hpo
          go_wp2_with (first
            | (go_at_call 22
               go_must (
                 (refine (headed_calls _ n code s h0 h1 hcs2 hcs0 hcs1).mono ?_)
                 rintro e w4 ⟨A4, c4, rfl, hown4, hbel4⟩
                 have hb4 : Below wr.heap.size wr w4 := ((Below.refl _ wr).alloc (Nat.le_refl _) _).trans (hbel4.mono (by simp))
                 have he4 : El w4 w.heap.size (IntF n) (.slice A4 (code :: be n s).length c4) := El.own (own_lower hown4 (by simp; omega)) (by simp) (.inr (.inr (.inl ⟨_, HPF.out, HPO.out, h0, rfl⟩)))
                 obtain ⟨N4, hN4⟩ : ∃ N4, N4 = (code :: be n s).length := ⟨_, rfl⟩
                 rw [← hN4] at he4 ⊢
                 have hm4 := HM.out.below hb4
                 have hwz4 : w.heap.size ≤ w4.heap.size := Nat.le_trans hwz hb4.size
                 have HB4 := Lib.hid hb4
                 have HE4 := Lib.hid he4
                 have HM4 := Lib.hid hm4
                 have HN4 := Lib.hid hN4
                 clear hb4 he4 hm4 hown4 hbel4 hN4 c0 c1))
            | ((at_builtin)
               go_must (
                 (refine wpList_push (B := w.heap.size) (F := IntF n) rfl (.tmp 83) (.tmp 87) rfl w4 rfl _ rfl rfl rfl HM4.out HE4.out (by omega) (by omega) ?_)
                 intro A5 c5 w5 HM5 hg5
                 have hbel5 : Below w.heap.size w w5 := ((HBEL.out.trans (HB4.out.mono hwz)).alloc (by omega) _).grown hg5.out.1 (by simp; omega) (fun j hj => (hg5.out.2 j hj).1)
                 have hok4 := HOK.out.kept (belowP_grown HB4.out none) (by simp [Value.ownBlock])
                 have hok5 := (hok4.alloc _).kept hg5.out.1 (.inr (fun e => by
                   obtain ⟨_, cs, hc⟩ := hg5.out.2 gK (by rw [← e]; rfl)
                   exact own_neP (hok4.alloc _) hc (by decide) rfl))
                 have HBEL5 := Lib.hid hbel5
                 have HOK5 := Lib.hid hok5
                 clear hbel5 hok4 hok5 hg5)))
          go_roundw
          case rel => exact ⟨k + 1, N + 1, c5, A5, by omega, by go_num, rfl, by omega, by omega, HM5, HBEL5, HOK5⟩
          case measure => simp [intOf]; omega
        · obtain rfl : k = K.length := by omega
          have hNpos : 0 < N := by omega
          clear HOK
          obtain ⟨wq, rfl⟩ : ∃ wq, wq = wr := ⟨_, rfl⟩
          go_wp2
          go_loopw [11, 92] (fun v i wr => ∃ (k N c : Nat) (A : Option Addr), k ≤ 4 ∧ i = .int .i64 k ∧ v = .slice A N c ∧ N ≤ k + 6 ∧ (0 ≤ k → 0 < N) ∧ Hid (MS wr w.heap.size (IntF n) (.slice A N c) N) ∧ Hid (Below w.heap.size w wr) ∧ Hid (Blk wr wq.heap.size 3 [.int .i64 1, .int .i64 2, .int .i64 4, .int .i64 8])) (fun _ i _ => 4 - (intOf i).toNat)
          case atStart => exact ⟨0, N, c, A, by omega, rfl, rfl, by omega, fun h => by omega, HM.out.below ((Below.refl _ wq).alloc (Nat.le_refl _) _), HBEL.out.alloc (HBEL.out.size) _, Blk.new wq _ [_, _, _, _]⟩
          case round =>
            obtain ⟨k, N, c, A, hk, rfl, rfl, hNk, hN4, HM, HBEL, HL⟩ := hrel
            have hwz : w.heap.size ≤ wr.heap.size := HBEL.out.size
            have hNp := hN4 (Nat.zero_le _)
            have l0 := HL.out.cell 0
            have l1 := HL.out.cell 1
            have l2 := HL.out.cell 2
            have l3 := HL.out.cell 3
            simp only [List.getElem?_cons_zero, List.getElem?_cons_succ] at l0 l1 l2 l3
            by_cases hlt : k < 4
            · have hkc : k = 0 ∨ k = 1 ∨ k = 2 ∨ k = 3 := by omega
              rcases hkc with rfl | rfl | rfl | rfl
              · by_cases hcd : n < 128
                · exact absurd hcd (by omega)
                · go_wp2
                  go_roundw
                  case rel => exact ⟨1, N, c, A, by omega, by first | rfl | go_num, rfl, by omega, fun h => by omega, HM, HBEL, HL⟩
                  case measure => simp [intOf]
              · by_cases hcd : n < 32768
                · skip
                  go_wp2_with (first
                    | (go_at_call 34
                       go_must (
                         (refine (big_calls2 _ n 2 (by omega) (by omega) (by omega)).mono ?_)
                         rintro e w3 ⟨A3, c3, rfl, hown3, hbel3⟩
                         have hlit : Blk w3 wr.heap.size 5 [.int .u8 209] := (Blk.new wr _ [_]).below hbel3 (by simp)
                         have hb3 : Below wr.heap.size wr w3 := ((Below.refl _ wr).alloc (Nat.le_refl _) _).trans (hbel3.mono (by simp))
                         have HLIT := Lib.hid hlit
                         have HB3 := Lib.hid hb3
                         have HOWN3 := Lib.hid hown3
                         clear hlit hb3 hown3 hbel3))
                    | ((at_builtin)
                       go_must (first
                         | ((refine wpList_push (B := w.heap.size) (F := IntF n) rfl (.tmp 103) (.tmp 112) rfl w4 rfl _ rfl rfl rfl HM4.out HE4.out (by omega) (by omega) ?_)
                            intro A5 c5 w5 HM5 hg5
                            have hbel5 : Below w.heap.size w w5 := ((HBEL.out.trans (HB4.out.mono hwz)).alloc (by omega) _).grown hg5.out.1 (by simp; omega) (fun j hj => (hg5.out.2 j hj).1)
                            have hl5 : Blk w5 wq.heap.size 3 _ := ((HL.out.below HB4.out HL.out.lt).alloc _).grown hg5.out.1 (fun e => by obtain ⟨_, cs, hc⟩ := hg5.out.2 _ e.symm; exact hc.ne_ ((HL.out.below HB4.out HL.out.lt).alloc _) (by decide) rfl)
                            have HBEL5 := Lib.hid hbel5
                            have HL5 := Lib.hid hl5
                            clear hbel5 hl5 hg5)
                         | ((refine wpList_lit (B := w.heap.size) (x := 209) (l := be n 2) rfl (.tmp 107) (.tmp 110) rfl rfl rfl HLIT.out hwz (Reads.of_own HOWN3.out) (be_length _ _) (by omega) ?_)
                            intro A4 c4 N4 w4 HN4 HO4 HG4
                            have hb4 : Below wr.heap.size wr w4 := HB3.out.grown HG4.out HB3.out.size (fun j hj => by injection hj with hj; omega)
                            have he4 : El w4 w.heap.size (IntF n) (.slice A4 N4 c4) := by
                              have hn4 := HN4.out
                              subst hn4
                              exact El.own HO4.out (by simp) (.inr (.inr (.inr ⟨(209, 2), by simp, by simp only [Nat.reduceMul, Nat.reduceSub, Int.reducePow]; omega, by simp only [Nat.reduceMul, Nat.reduceSub, Int.reducePow]; omega, rfl⟩)))
                            have hm4 := HM.out.below hb4
                            have hwz4 : w.heap.size ≤ w4.heap.size := Nat.le_trans hwz hb4.size
                            have HB4 := Lib.hid hb4
                            have HE4 := Lib.hid he4
                            have HM4 := Lib.hid hm4
                            clear hb4 he4 hm4 HG4))))
                  go_roundw
                  case rel => exact ⟨2, N + 1, c5, A5, by omega, by first | rfl | go_num, rfl, by omega, fun _ => by omega, HM5, HBEL5, HL5⟩
                  case measure => simp [intOf]
                · go_wp2
                  go_roundw
                  case rel => exact ⟨2, N, c, A, by omega, by first | rfl | go_num, rfl, by omega, fun h => by omega, HM, HBEL, HL⟩
                  case measure => simp [intOf]
              · by_cases hcd : n < 2147483648
                · skip
                  go_wp2_with (first
                    | (go_at_call 34
                       go_must (
                         (refine (big_calls2 _ n 4 (by omega) (by omega) (by omega)).mono ?_)
                         rintro e w3 ⟨A3, c3, rfl, hown3, hbel3⟩
                         have hlit : Blk w3 wr.heap.size 5 [.int .u8 210] := (Blk.new wr _ [_]).below hbel3 (by simp)
                         have hb3 : Below wr.heap.size wr w3 := ((Below.refl _ wr).alloc (Nat.le_refl _) _).trans (hbel3.mono (by simp))
                         have HLIT := Lib.hid hlit
                         have HB3 := Lib.hid hb3
                         have HOWN3 := Lib.hid hown3
                         clear hlit hb3 hown3 hbel3))
                    | ((at_builtin)
                       go_must (first
                         | ((refine wpList_push (B := w.heap.size) (F := IntF n) rfl (.tmp 103) (.tmp 112) rfl w4 rfl _ rfl rfl rfl HM4.out HE4.out (by omega) (by omega) ?_)
                            intro A5 c5 w5 HM5 hg5
                            have hbel5 : Below w.heap.size w w5 := ((HBEL.out.trans (HB4.out.mono hwz)).alloc (by omega) _).grown hg5.out.1 (by simp; omega) (fun j hj => (hg5.out.2 j hj).1)
                            have hl5 : Blk w5 wq.heap.size 3 _ := ((HL.out.below HB4.out HL.out.lt).alloc _).grown hg5.out.1 (fun e => by obtain ⟨_, cs, hc⟩ := hg5.out.2 _ e.symm; exact hc.ne_ ((HL.out.below HB4.out HL.out.lt).alloc _) (by decide) rfl)
                            have HBEL5 := Lib.hid hbel5
                            have HL5 := Lib.hid hl5
                            clear hbel5 hl5 hg5)
                         | ((refine wpList_lit (B := w.heap.size) (x := 210) (l := be n 4) rfl (.tmp 107) (.tmp 110) rfl rfl rfl HLIT.out hwz (Reads.of_own HOWN3.out) (be_length _ _) (by omega) ?_)
                            intro A4 c4 N4 w4 HN4 HO4 HG4
                            have hb4 : Below wr.heap.size wr w4 := HB3.out.grown HG4.out HB3.out.size (fun j hj => by injection hj with hj; omega)
                            have he4 : El w4 w.heap.size (IntF n) (.slice A4 N4 c4) := by
                              have hn4 := HN4.out
                              subst hn4
                              exact El.own HO4.out (by simp) (.inr (.inr (.inr ⟨(210, 4), by simp, by simp only [Nat.reduceMul, Nat.reduceSub, Int.reducePow]; omega, by simp only [Nat.reduceMul, Nat.reduceSub, Int.reducePow]; omega, rfl⟩)))
                            have hm4 := HM.out.below hb4
                            have hwz4 : w.heap.size ≤ w4.heap.size := Nat.le_trans hwz hb4.size
                            have HB4 := Lib.hid hb4
                            have HE4 := Lib.hid he4
                            have HM4 := Lib.hid hm4
                            clear hb4 he4 hm4 HG4))))
                  go_roundw
                  case rel => exact ⟨3, N + 1, c5, A5, by omega, by first | rfl | go_num, rfl, by omega, fun _ => by omega, HM5, HBEL5, HL5⟩
                  case measure => simp [intOf]
                · go_wp2
                  go_roundw
                  case rel => exact ⟨3, N, c, A, by omega, by first | rfl | go_num, rfl, by omega, fun h => by omega, HM, HBEL, HL⟩
                  case measure => simp [intOf]
              · by_cases hcd : n < 9223372036854775808
                · skip
                  go_wp2_with (first
                    | (go_at_call 34
                       go_must (
                         (refine (big_calls2 _ n 8 (by omega) (by omega) (by omega)).mono ?_)
                         rintro e w3 ⟨A3, c3, rfl, hown3, hbel3⟩
                         have hlit : Blk w3 wr.heap.size 5 [.int .u8 211] := (Blk.new wr _ [_]).below hbel3 (by simp)
                         have hb3 : Below wr.heap.size wr w3 := ((Below.refl _ wr).alloc (Nat.le_refl _) _).trans (hbel3.mono (by simp))
                         have HLIT := Lib.hid hlit
                         have HB3 := Lib.hid hb3
                         have HOWN3 := Lib.hid hown3
                         clear hlit hb3 hown3 hbel3))
                    | ((at_builtin)
                       go_must (first
                         | ((refine wpList_push (B := w.heap.size) (F := IntF n) rfl (.tmp 103) (.tmp 112) rfl w4 rfl _ rfl rfl rfl HM4.out HE4.out (by omega) (by omega) ?_)
                            intro A5 c5 w5 HM5 hg5
                            have hbel5 : Below w.heap.size w w5 := ((HBEL.out.trans (HB4.out.mono hwz)).alloc (by omega) _).grown hg5.out.1 (by simp; omega) (fun j hj => (hg5.out.2 j hj).1)
                            have hl5 : Blk w5 wq.heap.size 3 _ := ((HL.out.below HB4.out HL.out.lt).alloc _).grown hg5.out.1 (fun e => by obtain ⟨_, cs, hc⟩ := hg5.out.2 _ e.symm; exact hc.ne_ ((HL.out.below HB4.out HL.out.lt).alloc _) (by decide) rfl)
                            have HBEL5 := Lib.hid hbel5
                            have HL5 := Lib.hid hl5
                            clear hbel5 hl5 hg5)
                         | ((refine wpList_lit (B := w.heap.size) (x := 211) (l := be n 8) rfl (.tmp 107) (.tmp 110) rfl rfl rfl HLIT.out hwz (Reads.of_own HOWN3.out) (be_length _ _) (by omega) ?_)
                            intro A4 c4 N4 w4 HN4 HO4 HG4
                            have hb4 : Below wr.heap.size wr w4 := HB3.out.grown HG4.out HB3.out.size (fun j hj => by injection hj with hj; omega)
                            have he4 : El w4 w.heap.size (IntF n) (.slice A4 N4 c4) := by
                              have hn4 := HN4.out
                              subst hn4
                              exact El.own HO4.out (by simp) (.inr (.inr (.inr ⟨(211, 8), by simp, by simp only [Nat.reduceMul, Nat.reduceSub, Int.reducePow]; omega, by simp only [Nat.reduceMul, Nat.reduceSub, Int.reducePow]; omega, rfl⟩)))
                            have hm4 := HM.out.below hb4
                            have hwz4 : w.heap.size ≤ w4.heap.size := Nat.le_trans hwz hb4.size
                            have HB4 := Lib.hid hb4
                            have HE4 := Lib.hid he4
                            have HM4 := Lib.hid hm4
                            clear hb4 he4 hm4 HG4))))
                  go_roundw
                  case rel => exact ⟨4, N + 1, c5, A5, by omega, by first | rfl | go_num, rfl, by omega, fun _ => by omega, HM5, HBEL5, HL5⟩
                  case measure => simp [intOf]
                · go_wp2
                  go_roundw
                  case rel => exact ⟨4, N, c, A, by omega, by first | rfl | go_num, rfl, by omega, fun h => by omega, HM, HBEL, HL⟩
                  case measure => simp [intOf]
            · obtain rfl : k = 4 := by omega
              have hN := hN4 (Nat.zero_le _)
              go_wp2_with (
                (go_at_call 35)
                go_must (
                  (refine (pick_calls wr gf N st sh (HB.out.below HBEL.out hgf) hN (by omega)).mono ?_)
                  rintro e w4 ⟨j, st4, rfl, hj, hb4, hg4⟩
                  obtain ⟨xs, hown, hxs⟩ := HM.out
                  have hown4 := hown.kept hg4 (.inr (fun e => by have := (hown.lt gf e).1; omega))
                  have hlen : xs.length = N := by have := hown.1; omega
                  obtain ⟨g5, cs5, hv5, hb5, hB5, hn5, hm5, ht5⟩ := own_blk hown4 (.inl hN)
                  have hxj := hxs xs[j] (List.getElem_mem (by omega))
                  have hcell := hb5.cell j
                  have hxe : cs5[j]? = some xs[j] := by
                    have h1 : (cs5.take N)[j]? = xs[j]? := by rw [ht5]
                    rw [List.getElem?_take, if_pos hj, List.getElem?_eq_getElem (show j < xs.length by omega)] at h1
                    exact h1
                  rw [hxe] at hcell
                  have hel4 := hxj.grown hg4 (fun k hk => by injection hk with hk; subst hk; exact ⟨_, _, HB.out.below HBEL.out hgf, by decide⟩)
                  generalize xs[j] = xv at *
                  obtain ⟨g6, cs6, e6, rfl, hb6, hn6, hm6, ht6, hf6, hB6⟩ := hel4
                  injection hv5 with ev1 ev2 ev3
                  subst ev1
                  subst ev3
                  have HB4 := Lib.hid hb4
                  have HG4 := Lib.hid hg4
                  have HB6 := Lib.hid hb6
                  have HF6 := Lib.hid hf6
                  have HT6 := Lib.hid ht6
                  clear hown hxs hown4 hb5 ht5 hxj hxe hb4 hg4 hb6 hf6 ht6 hlen l0 l1 l2 l3))
              go_ret
              exact ⟨e6, _, _, st4, rfl, HF6.out, by rw [← HT6.out]; exact blk_own HB6.out hB6 hn6 hm6, HB4.out, grownP_trans (belowP_grown HBEL.out _) HG4.out⟩
end Go.Proofs.YtfhaddnacdjpoaaDoor
