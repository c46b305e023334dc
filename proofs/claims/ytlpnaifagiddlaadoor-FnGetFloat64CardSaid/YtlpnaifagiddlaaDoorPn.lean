/- Forms.putExt; spec.PutPack at an extension. PRINTED by wip/genpx.py. -/
import Derived.Test.YtlpnaifagiddlaaDoorPm
namespace Go.Proofs.YtlpnaifagiddlaaDoor
open Go.RowKit
set_option linter.unusedVariables false

/-- The head of an extension. -/
def ExtF (enc : List Int) : Prop := (∃ b r, enc = b :: r ∧ OtherB 10 b) ∧ enc.length ≤ 6
theorem ext_fix (b k : Int) (hb : 212 ≤ b) (hb1 : b ≤ 216) : ExtF [b, k] := ⟨⟨b, [k], rfl, (by omega), (by omega), (by omega), fun _ => .inr ⟨hb, hb1⟩⟩, by simp⟩
theorem ext_head {n k : Int} {p : Int × Nat} (hp : p ∈ ([(199, 1), (200, 2), (201, 4)] : List (Int × Nat))) : ExtF ((p.1 :: be n p.2) ++ [k]) := by
  refine ⟨⟨p.1, be n p.2 ++ [k], rfl, ?_⟩, ?_⟩
  · simp only [List.mem_cons, List.not_mem_nil, or_false] at hp
    rcases hp with rfl | rfl | rfl <;> exact ⟨(by omega), (by omega), (by omega), fun _ => .inl (by omega)⟩
  · simp only [List.mem_cons, List.not_mem_nil, or_false] at hp
    simp only [List.length_append, List.length_cons, List.length_nil, be_length]
    rcases hp with rfl | rfl | rfl <;> simp
set_option maxHeartbeats 8000000 in
set_option maxRecDepth 100000 in
theorem putExt_calls (w : World) (gf n : Nat) (st x : Int) (sh : Bool) (hb : Blk w gf 62 [.int .u64 st, .bool sh]) (hn : n ≤ 131072) :
    Calls Tryd.prog 46 #[.pointer (some ⟨gf, 0, none⟩), .int .i64 n, .int .i64 x] w (PutH gf sh ExtF w) := by
  obtain ⟨i0, hi0, hz0, hz1, hz2⟩ := info_parts infoU8
  have hgf := hb.lt
  have hwn : IntKind.u64.wrap (n : Int) = n := by rw [IntKind.wrap_u64]; omega
  have hwx : IntKind.u8.wrap x = x % 256 := by rw [IntKind.wrap_u8]
  have HB := Lib.hid hb
  clear hb
  go_enter Tryd.func46, Tryd.ntmps46
  go_wp2
  go_loopw [7, 14] (fun v i wr => ∃ (k N c : Nat) (A : Option Addr), k ≤ 5 ∧ i = .int .i64 k ∧ v = .slice A N c ∧ N ≤ k ∧ Hid (MS wr w.heap.size ExtF (.slice A N c) N) ∧ Hid (Below w.heap.size w wr) ∧ Hid (Blk wr w.heap.size 3 [.int .i64 1, .int .i64 2, .int .i64 4, .int .i64 8, .int .i64 16])) (fun _ i _ => 5 - (intOf i).toNat)
  case atStart => exact ⟨0, 0, 0, none, by omega, rfl, rfl, by omega, MS.nil _ _ _, (Below.refl _ w).alloc (Nat.le_refl _) _, Blk.new w _ [_, _, _, _, _]⟩
  case round =>
    obtain ⟨k, N, c, A, hk, rfl, rfl, hNk, HM, HBEL, HL⟩ := hrel
    have hwz : w.heap.size ≤ wr.heap.size := HBEL.out.size
    have l0 := HL.out.cell 0
    have l1 := HL.out.cell 1
    have l2 := HL.out.cell 2
    have l3 := HL.out.cell 3
    have l4 := HL.out.cell 4
    simp only [List.getElem?_cons_zero, List.getElem?_cons_succ] at l0 l1 l2 l3 l4
    by_cases hlt : k < 5
    · have hkc : k = 0 ∨ k = 1 ∨ k = 2 ∨ k = 3 ∨ k = 4 := by omega
      rcases hkc with rfl | rfl | rfl | rfl | rfl
      · by_cases hcd : n = 1
        · have hcb : ((n : Int) == 1) = true := by simp; omega
          clear hcd
          go_wp2_with (
            (at_builtin)
            go_must (
              (refine wpList_push (B := w.heap.size) (F := ExtF) rfl (.tmp 22) (.tmp 29) rfl (wr.alloc (.cells #[.int .u8 212, .int .u8 (x % 256)] 5)) rfl _ (by simp) rfl rfl (HM.out.below ((Below.refl _ wr).alloc (Nat.le_refl _) _)) ?_ (by simp; omega) (by omega) ?_
               · refine ⟨wr.heap.size, [.int .u8 212, .int .u8 (x % 256)], [212, x % 256], rfl, Blk.new wr _ [_, _], by simp, by simp [maxLen], by simp [bs], ext_fix _ _ (by omega) (by omega), hwz⟩
               intro A5 c5 w5 HM5 hg5
               have hbel5 : Below w.heap.size w w5 := ((HBEL.out.alloc hwz _).alloc (by simp; omega) _).grown hg5.out.1 (by simp; omega) (fun j hj => (hg5.out.2 j hj).1)
               have hl5 : Blk w5 w.heap.size 3 _ := ((HL.out.alloc _).alloc _).grown hg5.out.1 (fun e => by obtain ⟨_, cs, hc⟩ := hg5.out.2 _ e.symm; exact hc.ne_ ((HL.out.alloc _).alloc _) (by decide) rfl)
               have HBEL5 := Lib.hid hbel5
               have HL5 := Lib.hid hl5
               clear hbel5 hl5 hg5)))
          go_roundw
          case rel => exact ⟨1, N + 1, c5, A5, by omega, by first | rfl | go_num, rfl, by omega, HM5, HBEL5, HL5⟩
          case measure => simp [intOf]
        · have hcb : ((n : Int) == 1) = false := by simp; omega
          go_wp2
          go_roundw
          case rel => exact ⟨1, N, c, A, by omega, by first | rfl | go_num, rfl, by omega, HM, HBEL, HL⟩
          case measure => simp [intOf]
      · by_cases hcd : n = 2
        · have hcb : ((n : Int) == 2) = true := by simp; omega
          clear hcd
          go_wp2_with (
            (at_builtin)
            go_must (
              (refine wpList_push (B := w.heap.size) (F := ExtF) rfl (.tmp 22) (.tmp 29) rfl (wr.alloc (.cells #[.int .u8 213, .int .u8 (x % 256)] 5)) rfl _ (by simp) rfl rfl (HM.out.below ((Below.refl _ wr).alloc (Nat.le_refl _) _)) ?_ (by simp; omega) (by omega) ?_
               · refine ⟨wr.heap.size, [.int .u8 213, .int .u8 (x % 256)], [213, x % 256], rfl, Blk.new wr _ [_, _], by simp, by simp [maxLen], by simp [bs], ext_fix _ _ (by omega) (by omega), hwz⟩
               intro A5 c5 w5 HM5 hg5
               have hbel5 : Below w.heap.size w w5 := ((HBEL.out.alloc hwz _).alloc (by simp; omega) _).grown hg5.out.1 (by simp; omega) (fun j hj => (hg5.out.2 j hj).1)
               have hl5 : Blk w5 w.heap.size 3 _ := ((HL.out.alloc _).alloc _).grown hg5.out.1 (fun e => by obtain ⟨_, cs, hc⟩ := hg5.out.2 _ e.symm; exact hc.ne_ ((HL.out.alloc _).alloc _) (by decide) rfl)
               have HBEL5 := Lib.hid hbel5
               have HL5 := Lib.hid hl5
               clear hbel5 hl5 hg5)))
          go_roundw
          case rel => exact ⟨2, N + 1, c5, A5, by omega, by first | rfl | go_num, rfl, by omega, HM5, HBEL5, HL5⟩
          case measure => simp [intOf]
        · have hcb : ((n : Int) == 2) = false := by simp; omega
          go_wp2
          go_roundw
          case rel => exact ⟨2, N, c, A, by omega, by first | rfl | go_num, rfl, by omega, HM, HBEL, HL⟩
          case measure => simp [intOf]
      · by_cases hcd : n = 4
        · have hcb : ((n : Int) == 4) = true := by simp; omega
          clear hcd
          go_wp2_with (
            (at_builtin)
            go_must (
              (refine wpList_push (B := w.heap.size) (F := ExtF) rfl (.tmp 22) (.tmp 29) rfl (wr.alloc (.cells #[.int .u8 214, .int .u8 (x % 256)] 5)) rfl _ (by simp) rfl rfl (HM.out.below ((Below.refl _ wr).alloc (Nat.le_refl _) _)) ?_ (by simp; omega) (by omega) ?_
               · refine ⟨wr.heap.size, [.int .u8 214, .int .u8 (x % 256)], [214, x % 256], rfl, Blk.new wr _ [_, _], by simp, by simp [maxLen], by simp [bs], ext_fix _ _ (by omega) (by omega), hwz⟩
               intro A5 c5 w5 HM5 hg5
               have hbel5 : Below w.heap.size w w5 := ((HBEL.out.alloc hwz _).alloc (by simp; omega) _).grown hg5.out.1 (by simp; omega) (fun j hj => (hg5.out.2 j hj).1)
               have hl5 : Blk w5 w.heap.size 3 _ := ((HL.out.alloc _).alloc _).grown hg5.out.1 (fun e => by obtain ⟨_, cs, hc⟩ := hg5.out.2 _ e.symm; exact hc.ne_ ((HL.out.alloc _).alloc _) (by decide) rfl)
               have HBEL5 := Lib.hid hbel5
               have HL5 := Lib.hid hl5
               clear hbel5 hl5 hg5)))
          go_roundw
          case rel => exact ⟨3, N + 1, c5, A5, by omega, by first | rfl | go_num, rfl, by omega, HM5, HBEL5, HL5⟩
          case measure => simp [intOf]
        · have hcb : ((n : Int) == 4) = false := by simp; omega
          go_wp2
          go_roundw
          case rel => exact ⟨3, N, c, A, by omega, by first | rfl | go_num, rfl, by omega, HM, HBEL, HL⟩
          case measure => simp [intOf]
      · by_cases hcd : n = 8
        · have hcb : ((n : Int) == 8) = true := by simp; omega
          clear hcd
          go_wp2_with (
            (at_builtin)
            go_must (
              (refine wpList_push (B := w.heap.size) (F := ExtF) rfl (.tmp 22) (.tmp 29) rfl (wr.alloc (.cells #[.int .u8 215, .int .u8 (x % 256)] 5)) rfl _ (by simp) rfl rfl (HM.out.below ((Below.refl _ wr).alloc (Nat.le_refl _) _)) ?_ (by simp; omega) (by omega) ?_
               · refine ⟨wr.heap.size, [.int .u8 215, .int .u8 (x % 256)], [215, x % 256], rfl, Blk.new wr _ [_, _], by simp, by simp [maxLen], by simp [bs], ext_fix _ _ (by omega) (by omega), hwz⟩
               intro A5 c5 w5 HM5 hg5
               have hbel5 : Below w.heap.size w w5 := ((HBEL.out.alloc hwz _).alloc (by simp; omega) _).grown hg5.out.1 (by simp; omega) (fun j hj => (hg5.out.2 j hj).1)
               have hl5 : Blk w5 w.heap.size 3 _ := ((HL.out.alloc _).alloc _).grown hg5.out.1 (fun e => by obtain ⟨_, cs, hc⟩ := hg5.out.2 _ e.symm; exact hc.ne_ ((HL.out.alloc _).alloc _) (by decide) rfl)
               have HBEL5 := Lib.hid hbel5
               have HL5 := Lib.hid hl5
               clear hbel5 hl5 hg5)))
          go_roundw
          case rel => exact ⟨4, N + 1, c5, A5, by omega, by first | rfl | go_num, rfl, by omega, HM5, HBEL5, HL5⟩
          case measure => simp [intOf]
        · have hcb : ((n : Int) == 8) = false := by simp; omega
          go_wp2
          go_roundw
          case rel => exact ⟨4, N, c, A, by omega, by first | rfl | go_num, rfl, by omega, HM, HBEL, HL⟩
          case measure => simp [intOf]
      · by_cases hcd : n = 16
        · have hcb : ((n : Int) == 16) = true := by simp; omega
          clear hcd
          go_wp2_with (
            (at_builtin)
            go_must (
              (refine wpList_push (B := w.heap.size) (F := ExtF) rfl (.tmp 22) (.tmp 29) rfl (wr.alloc (.cells #[.int .u8 216, .int .u8 (x % 256)] 5)) rfl _ (by simp) rfl rfl (HM.out.below ((Below.refl _ wr).alloc (Nat.le_refl _) _)) ?_ (by simp; omega) (by omega) ?_
               · refine ⟨wr.heap.size, [.int .u8 216, .int .u8 (x % 256)], [216, x % 256], rfl, Blk.new wr _ [_, _], by simp, by simp [maxLen], by simp [bs], ext_fix _ _ (by omega) (by omega), hwz⟩
               intro A5 c5 w5 HM5 hg5
               have hbel5 : Below w.heap.size w w5 := ((HBEL.out.alloc hwz _).alloc (by simp; omega) _).grown hg5.out.1 (by simp; omega) (fun j hj => (hg5.out.2 j hj).1)
               have hl5 : Blk w5 w.heap.size 3 _ := ((HL.out.alloc _).alloc _).grown hg5.out.1 (fun e => by obtain ⟨_, cs, hc⟩ := hg5.out.2 _ e.symm; exact hc.ne_ ((HL.out.alloc _).alloc _) (by decide) rfl)
               have HBEL5 := Lib.hid hbel5
               have HL5 := Lib.hid hl5
               clear hbel5 hl5 hg5)))
          go_roundw
          case rel => exact ⟨5, N + 1, c5, A5, by omega, by first | rfl | go_num, rfl, by omega, HM5, HBEL5, HL5⟩
          case measure => simp [intOf]
        · have hcb : ((n : Int) == 16) = false := by simp; omega
          go_wp2
          go_roundw
          case rel => exact ⟨5, N, c, A, by omega, by first | rfl | go_num, rfl, by omega, HM, HBEL, HL⟩
          case measure => simp [intOf]
    · obtain rfl : k = 5 := by omega
      clear HL l0 l1 l2 l3 l4
      obtain ⟨wq, rfl⟩ : ∃ wq, wq = wr := ⟨_, rfl⟩
      have hwt : WantsF (wq.alloc (.cells #[.int .i64 199, .int .i64 1, .int .i64 200, .int .i64 2, .int .i64 201, .int .i64 4] 86)) (wq.alloc (.cells #[.int .i64 199, .int .i64 1, .int .i64 200, .int .i64 2, .int .i64 201, .int .i64 4] 86)).heap.size (some ⟨wq.heap.size, 0, none⟩) [(199, 1), (200, 2), (201, 4)] :=
        (wantsF_lit wq [(199, 1), (200, 2), (201, 4)]).more (by simp)
      have HWT := Lib.hid hwt
      clear hwt
      go_wp2_with (
        (go_at_call 59)
        go_must (
          (refine (sizes_calls _ n _ 3 [(199, 1), (200, 2), (201, 4)] (by omega) (by omega) HWT.out (by simp) (by simp)).mono ?_)
          rintro e w3 ⟨AK, cK, rfl, hownK, hbel3⟩
          have hb3 : Below w.heap.size w w3 := (HBEL.out.alloc hwz _).trans (hbel3.mono (by simp; omega))
          obtain ⟨K, hK⟩ : ∃ K, K = ([(199, 1), (200, 2), (201, 4)] : List (Int × Nat)).filter (okF ((n : Nat) : Int)) := ⟨_, rfl⟩
          rw [← hK] at hownK ⊢
          have hKP : ∀ p ∈ K, p ∈ ([(199, 1), (200, 2), (201, 4)] : List (Int × Nat)) := fun p hp => by rw [hK] at hp; exact (List.mem_filter.1 hp).1
          have hK3 : K.length ≤ 3 := by rw [hK]; exact Nat.le_trans (List.length_filter_le _ _) (by simp)
          have hK0 : 0 < K.length := by
            rw [hK]
            apply List.length_pos_of_mem (a := (201, 4))
            refine List.mem_filter.2 ⟨by simp, ?_⟩
            simp only [okF, Bool.or_eq_true, decide_eq_true_eq]
            right
            have : (2 : Int) ^ (8 * 4) = 4294967296 := by decide
            rw [this]
            omega
          have hownK2 := own_lower (B' := w.heap.size) hownK (by simp; omega)
          have hms3 := HM.out.below (((Below.refl _ wq).alloc (Nat.le_refl _) _).trans (hbel3.mono (by simp)))
          have HKP := Lib.hid hKP
          have HOWNK := Lib.hid hownK2
          have HB3 := Lib.hid hb3
          have HMS3 := Lib.hid hms3
          clear hK hKP hownK hownK2 hb3 hbel3 hms3))
      clear HM HBEL hwz HWT
      go_loopw [7, 40] (fun v i wr => ∃ (k N c : Nat) (A : Option Addr), k ≤ K.length ∧ i = .int .i64 k ∧ v = .slice A N c ∧ N ≤ k + 5 ∧ k ≤ N ∧ Hid (MS wr w.heap.size ExtF (.slice A N c) N) ∧ Hid (Below w.heap.size w wr) ∧ Hid (wr.ownsRow w.heap.size 86 2 (.slice AK K.length cK) K.length (K.flatMap cF))) (fun _ i _ => K.length - (intOf i).toNat)
      case atStart => exact ⟨0, N, c, A, by omega, rfl, rfl, by omega, by omega, HMS3, HB3, HOWNK⟩
      case round =>
        obtain ⟨k, N, c, A, hk, rfl, rfl, hNk, hkN, HM, HBEL, HOK⟩ := hrel
        have hwz : w.heap.size ≤ wr.heap.size := HBEL.out.size
        by_cases hlt : k < K.length
        · obtain ⟨gK, hAK, hgKB, hcK⟩ := wantsF_own HOK.out (by omega)
          subst hAK
          obtain ⟨c0, c1⟩ := hcK k hlt
          have hpf := HKP.out _ (List.getElem_mem hlt)
          generalize K[k] = p at *
          obtain ⟨code, s⟩ := p
          have hcs : 0 ≤ code ∧ code ≤ 255 ∧ s ≤ 8 := by
            simp only [List.mem_cons, List.not_mem_nil, or_false, Prod.mk.injEq] at hpf
            omega
          obtain ⟨hcs0, hcs1, hcs2⟩ := hcs
          simp only at c0 c1
          have HPF := Lib.hid hpf
          clear hcK hpf
          go_wp2_with (first
            | (go_at_call 44
               go_must (
                 (refine (headed_calls _ n code s (by omega) (by omega) hcs2 hcs0 hcs1).mono ?_)
                 rintro e w4 ⟨A4, c4, rfl, hown4, hbel4⟩
                 have hb4 : Below wr.heap.size wr w4 := ((Below.refl _ wr).alloc (Nat.le_refl _) _).trans (hbel4.mono (by simp))
                 have hown4' := own_lower (B' := w.heap.size) hown4 (by simp; omega)
                 have hlow4 : ∀ j, (Value.slice A4 (code :: be n s).length c4).ownBlock = some j → wr.heap.size ≤ j := fun j hj => by
                   have := (hown4.lt j hj).1
                   simp at this
                   omega
                 obtain ⟨N4, hN4⟩ : ∃ N4, N4 = (code :: be n s).length := ⟨_, rfl⟩
                 have hN10 : N4 ≤ 10 := by rw [hN4, List.length_cons, be_length]; omega
                 rw [← hN4] at hown4' hlow4 ⊢
                 have hwz4 : w.heap.size ≤ w4.heap.size := Nat.le_trans hwz hb4.size
                 have HB4 := Lib.hid hb4
                 have HO4 := Lib.hid hown4'
                 have HLO4 := Lib.hid hlow4
                 have HN4 := Lib.hid hN4
                 clear hb4 hown4 hown4' hlow4 hbel4 hN4 c0 c1))
            | ((at_builtin)
               go_must (first
                 | ((refine wpList_push (B := w.heap.size) (F := ExtF) rfl (.tmp 44) (.tmp 53) rfl w6 rfl _ rfl rfl rfl HM6.out HE6.out (by omega) (by omega) ?_)
                    intro A5 c5 w5 HM5 hg5
                    have hbel5 : Below w.heap.size w w5 := ((HBEL.out.trans (HB6.out.mono hwz)).alloc (by omega) _).grown hg5.out.1 (by simp; omega) (fun j hj => (hg5.out.2 j hj).1)
                    have hok4 := HOK.out.kept (belowP_grown HB6.out none) (by simp [Value.ownBlock])
                    have hok5 := (hok4.alloc _).kept hg5.out.1 (.inr (fun e => by
                      obtain ⟨_, cs, hc⟩ := hg5.out.2 gK (by rw [← e]; rfl)
                      exact own_neP (hok4.alloc _) hc (by decide) rfl))
                    have HBEL5 := Lib.hid hbel5
                    have HOK5 := Lib.hid hok5
                    clear hbel5 hok4 hok5 hg5)
                 | ((refine wpList_append_any _ rfl (.tmp 48) (.tmp 51) 26 rfl w.heap.size 5 i0 _ 1 1 Tryd.underlying26 hi0 hz0 hz1 hz2 rfl (by omega) (.slice A4 N4 c4) N4 _ rfl (HO4.out.alloc _) (w4.heap.size + 1) (some ⟨w4.heap.size, 0, none⟩) 1 1 [.int .u8 (x % 256)] rfl (reads_oneP _ _ _) (by simp [Value.oneCell']) (by simp only [maxLen]; omega) (by omega) (by simp; omega) ?_)
                    intro v6 w6 hown6 hg6 hat6
                    obtain ⟨A6, c6, rfl⟩ := own_formP hown6
                    have hb6 : Below wr.heap.size wr w6 := (HB4.out.alloc HB4.out.size _).grown hg6 (by have := HB4.out.size; simp; omega) HLO4.out
                    have he6 : El w6 w.heap.size ExtF (.slice A6 (N4 + 1) c6) := by
                      have e4 : N4 + 1 = ((code :: be n s) ++ [x % 256]).length := by rw [List.length_append, HN4.out]; rfl
                      have ho6 := hown6
                      rw [e4] at ho6 ⊢
                      exact El.own (by rw [bs_append]; exact ho6) (by simp) (ext_head HPF.out)
                    have hm6 := HM.out.below hb6
                    have hwz6 : w.heap.size ≤ w6.heap.size := Nat.le_trans hwz hb6.size
                    have HB6 := Lib.hid hb6
                    have HE6 := Lib.hid he6
                    have HM6 := Lib.hid hm6
                    clear hown6 hg6 hat6 hb6 he6 hm6))))
          go_roundw
          case rel => exact ⟨k + 1, N + 1, c5, A5, by omega, by go_num, rfl, by omega, by omega, HM5, HBEL5, HOK5⟩
          case measure => simp [intOf]; omega
        · obtain rfl : k = K.length := by omega
          have hNpos : 0 < N := by omega
          clear HOK
          go_wp2_with (
            (go_at_call 58)
            go_must (
              (refine (pick_calls wr gf N st sh (HB.out.below HBEL.out hgf) hNpos (by omega)).mono ?_)
              rintro e w4 ⟨j, st4, rfl, hj, hb4, hg4⟩
              obtain ⟨xs, hown, hxs⟩ := HM.out
              have hown4 := hown.kept hg4 (.inr (fun e => by have := (hown.lt gf e).1; omega))
              have hlen : xs.length = N := by have := hown.1; omega
              obtain ⟨g5, cs5, hv5, hb5, hB5, hn5, hm5, ht5⟩ := own_blk hown4 (.inl hNpos)
              have hxj := hxs xs[j] (List.getElem_mem (by omega))
              have hcell := hb5.cell j
              have hxe : cs5[j]? = some xs[j] := by
                have h1 : (cs5.take N)[j]? = xs[j]? := by rw [ht5]
                rw [List.getElem?_take, if_pos hj, List.getElem?_eq_getElem (show j < xs.length by omega)] at h1
                exact h1
              rw [hxe] at hcell
              have hel4 := hxj.grown hg4 (fun k hk => by injection hk with hk; subst hk; exact ⟨_, _, HB.out.below HBEL.out hgf, by decide⟩)
              generalize xs[j] = xv at *
              obtain ⟨g6, cs6, e6, rfl, hb6, hn6, hm6, ht6, hf6, hB6⟩ := hel4
              injection hv5 with ev1 ev2 ev3
              subst ev1
              subst ev3
              have HB4 := Lib.hid hb4
              have HG4 := Lib.hid hg4
              have HB6 := Lib.hid hb6
              have HF6 := Lib.hid hf6
              have HT6 := Lib.hid ht6
              clear hown hxs hown4 hb5 ht5 hxj hxe hb4 hg4 hb6 hf6 ht6 hlen))
          go_ret
          exact ⟨e6, _, _, st4, rfl, HF6.out, by rw [← HT6.out]; exact blk_own HB6.out hB6 hn6 hm6, HB4.out, grownP_trans (belowP_grown HBEL.out _) HG4.out⟩

set_option maxHeartbeats 4000000 in
set_option maxRecDepth 100000 in
theorem PP_ext (W : World) (gf : Nat) (st u x : Int) (sh : Bool) (s : ByteArray) (n c : Nat) (A : Option Addr) (hs : s.size ≤ 131072) (hb : Blk W gf 62 [.int .u64 st, .bool sh]) :
    Calls Tryd.prog 29 #[.agg #[.int .i64 10, .int .u64 u, .string s, .int .i64 x, .slice A n c], .pointer (some ⟨gf, 0, none⟩)] W (PutH gf sh (fun enc => ∃ hd, ExtF hd ∧ enc = hd ++ numsS s) W) := by
  obtain ⟨w1, hw1⟩ : ∃ w1, w1 = W.alloc (.cells #[.int .i64 10, .int .u64 u, .string s, .int .i64 x, .slice A n c] 25) := ⟨_, rfl⟩
  have hz : w1.heap.size = W.heap.size + 1 := by rw [hw1]; simp
  have hb1 : Blk w1 gf 62 [.int .u64 st, .bool sh] := by rw [hw1]; exact hb.alloc _
  have hp1 : Blk w1 W.heap.size 25 [.int .i64 10, .int .u64 u, .string s, .int .i64 x, .slice A n c] := by rw [hw1]; exact Blk.new W _ [_, _, _, _, _]
  have hg0 : W.grownBy w1 (some gf) := by rw [hw1]; exact World.grownBy_alloc _ _ _
  have hne : W.heap.size ≠ gf := hp1.ne_ hb1 (by decide)
  have q2 := hp1.cell 2
  have q3 := hp1.cell 3
  simp only [List.getElem?_cons_zero, List.getElem?_cons_succ] at q2 q3
  have HP1 := Lib.hid hp1
  have HB1 := Lib.hid hb1
  have HW1 := Lib.hid hw1
  have HG0 := Lib.hid hg0
  have HZ := Lib.hid hz
  clear hb hb1 hp1 hw1 hg0 hz
  go_enter Tryd.func29, Tryd.ntmps29
  go_wp2
  rw [← HW1.out]
  go_region_held3 (fun W' => W'.cell? ⟨W.heap.size, 2, none⟩ = some (.string s) ∧ W'.cell? ⟨W.heap.size, 3, none⟩ = some (.int .i64 x)) (first | assumption | go_keep)
    (first
      | (go_at_call 46
         refine (putExt_calls w1.drew gf s.size st x sh (HB1.out.drewN 1) (by omega)).mono ?_
         rintro e w3 ⟨enc, A3, c3, st3, rfl, hf3, hown3, hb3, hg3⟩
         have hg3' : w1.grownBy w3 (some gf) := ⟨hg3.os, hg3.tape, hg3.output, hg3.size, hg3.block⟩
         have hp3 : Blk w3 W.heap.size 25 _ := HP1.out.grown hg3' (fun e => hne (by injection e))
         have hS3 : w3.cell? ⟨W.heap.size, 2, none⟩ = some (.string s) ∧ w3.cell? ⟨W.heap.size, 3, none⟩ = some (.int .i64 x) := ⟨hp3.cell 2, hp3.cell 3⟩
         have HF3 := Lib.hid hf3
         have HO3 := Lib.hid hown3
         have HB3 := Lib.hid hb3
         have HG3 : Hid (W.grownBy w3 (some gf)) := grownP_trans HG0.out hg3'
         have HP3 := Lib.hid hp3
         have hl6 := hf3.2
         obtain ⟨N3, hN3⟩ : ∃ N3, N3 = enc.length := ⟨_, rfl⟩
         rw [← hN3] at HO3 hl6 ⊢
         have HN3 := Lib.hid hN3
         clear hf3 hown3 hb3 hg3 hg3' hp3 hN3)
      | (refine step_append_str (B := W.heap.size) rfl (.tmp 78) (.tmp 80) rfl rfl rfl (own_lower HO3.out (by have := HZ.out; simp; omega)) (HG3.out.size) (by omega) ?_
         intro A4 c4 w4 HO4 HG4
         have hlo : ∀ j, (Value.slice A3 N3 c3).ownBlock = some j → W.heap.size ≤ j := fun j hj => by
           have h1 := (HO3.out.lt j hj).1
           have h2 := HZ.out
           have h3 : w1.drew.heap.size = w1.heap.size := rfl
           omega
         have hp4 : Blk w4 W.heap.size 25 _ := HP3.out.grown HG4.out (fun e => own_neP HO3.out HP3.out (by decide) e.symm)
         have hS4 : w4.cell? ⟨W.heap.size, 2, none⟩ = some (.string s) ∧ w4.cell? ⟨W.heap.size, 3, none⟩ = some (.int .i64 x) := ⟨hp4.cell 2, hp4.cell 3⟩
         have HB4 := Lib.hid (HB3.out.grown HG4.out (fun e => own_neP HO3.out HB3.out (by decide) e.symm))
         have HGR4 := Lib.hid (grownP_fresh HG3.out HG4.out hlo)
         clear hlo hp4))
  all_goals
    go_wp2
    go_ret
    have hn := HN3.out
    have ho := HO4.out
    have e : N3 + s.size = (enc ++ numsS s).length := by rw [List.length_append, numsS_length, hn]
    rw [e] at ho ⊢
    exact ⟨enc ++ numsS s, A4, c4, st3, rfl, ⟨enc, HF3.out, rfl⟩, ho, HB4.out, HGR4.out⟩
end Go.Proofs.YtlpnaifagiddlaaDoor
