/- AMQP: the walk of FnFrameHead. -/
import Derived.Test.YtpkfmcnbodnpeaaAm
namespace Go.Proofs.Ytpkfmcnbodnpeaa
open Go.RowKit
set_option linter.unusedVariables false

theorem pk_form2 {w : World} {base n : Nat} {e : TypeId} {size : Nat} {v : Value} {xs : List Value} (h : w.ownsRow base e size v n xs) : ∃ A c, v = .slice A n c ∧ n ≤ c ∧ c ≤ maxLen := by
  rcases h.2 with ⟨rfl, rfl⟩ | ⟨g, cap, cur, rfl, _, _, h1, h2, _⟩
  · exact ⟨none, 0, rfl, Nat.le_refl _, by simp [maxLen]⟩
  · exact ⟨_, cap, rfl, h1, h2⟩
theorem reads_lit2 (w : World) (t : TypeId) (l : List Int) (b : Nat) (hb : b = w.heap.size) : Reads (w.alloc (.cells (bs l).toArray t)) (b + 1) 1 (some ⟨b, 0, none⟩) l.length (bs l) := by
  subst hb
  have hl : l.length ≤ (bs l).length := by simp [bs]
  have h := (Blk.new w t (bs l)).reads 0 l.length (by omega)
  rwa [List.drop_zero, List.take_of_length_le (by simp [bs])] at h

set_option maxHeartbeats 4000000 in
set_option maxRecDepth 100000 in
theorem FnFrameHead_yes (w : World) (A : Option Addr) (c : Nat) (size off kind ch : Int) (l : List Int) (h : Reads w w.heap.size 1 A l.length (bs l)) (hs0 : 8 ≤ size) (hs1 : size ≤ 4294967295) (ho : 2 ≤ off) (ho1 : off ≤ 255) (hk : 0 ≤ kind) (hk1 : kind ≤ 255) (hch : 0 ≤ ch) (hch1 : ch ≤ 65535) (hb1 : l.length ≤ 100) : 
    Calls Try.prog 4 #[.int .u32 size, .int .u8 off, .int .u8 kind, .int .u16 ch, .slice A l.length c, .int .i64 0] w fun e w' => e = .returned (.bool true) ∧ Below w.heap.size w w' := by
  have hd : decide ((2147483647 : Int) < (l.length : Int)) = false := by simp; omega
  have hd1 : decide ((100 : Int) < (l.length : Int)) = false := by simp; omega
  have hd2 : decide (size < 8) = false := by simp; omega
  have hd3 : decide (off < 2) = false := by simp; omega
  obtain ⟨i0, hi0, hz0, hz1, hz2⟩ := info_parts infoU8
  have H := Lib.hid h
  have hchh : ch / 256 * 256 + ch % 256 = ch := by omega
  have HCH := Lib.hid hchh
  clear h hchh
  go_enter Try.func4, Try.ntmps4
  go_wp2_with (first
    | (go_at_call 6
       go_must (first
        | ((have hp := FrameHead_yes w2 A2 c2 N ([size / 16777216, size / 65536 % 256, size / 256 % 256, size % 256, off, kind, ch / 256, ch % 256] ++ l) l HN.out rfl HR2.out (by omega) (by omega) (size / 16777216) (size / 65536 % 256) (size / 256 % 256) (size % 256) off kind (ch / 256) (ch % 256) size (by omega) (by omega) (by omega) (by omega) (by omega) (by omega) (by omega) (by omega) (by omega) (by omega) (by omega) (by omega) (by omega) (by omega) (by omega) (by omega) rfl rfl rfl rfl rfl rfl rfl rfl)
           rw [HCH.out] at hp
           refine hp.mono ?_
           rintro e w3 ⟨g3, cs3, rfl, hb3, ht3, hcs3, hbel3⟩
           have HB3 := Lib.hid hb3
           have HT3 := Lib.hid ht3
           have HBEL3 := Lib.hid hbel3
           have HCS3 := Lib.hid hcs3
           clear hb3 ht3 hbel3 hp hcs3)
        | ((refine (FrameHead_yes _ (some ⟨w.heap.size, 0, none⟩) 8 8 [0, 0, 0, 8, 2, 0, 0, 1] [] rfl rfl ((reads_lit2 w 5 [0, 0, 0, 8, 2, 0, 0, 1] _ rfl).more (by simp)) (by omega) (by omega) 0 0 0 8 2 0 0 1 8 (by omega) (by omega) (by omega) (by omega) (by omega) (by omega) (by omega) (by omega) (by omega) (by omega) (by omega) (by omega) (by omega) (by omega) (by omega) (by omega) rfl rfl rfl rfl rfl rfl rfl rfl).mono ?_)
           rintro e w1 ⟨g1, cs1, rfl, hb1, ht1, hcs1, hbel1⟩
           have HBEL1 : Hid (Below w.heap.size w w1) := ((Below.refl _ w).alloc (Nat.le_refl _) _).trans (hbel1.mono (by simp))
           clear hb1 ht1 hcs1 hbel1)))
    | (go_at_call 7
       go_must (
         (refine (left_yes w3 (some ⟨g3, 0, none⟩) A l.length _ _ l ?_ ?_).mono ?_)
         · have hr := (HB3.out.reads 0 l.length (by have := HCS3.out; omega)).more (show g3 + 1 ≤ w3.heap.size from HB3.out.lt)
           rw [List.drop_zero, HT3.out] at hr
           exact hr
         · exact (((H.out.below HBEL1.out).below (HBEL2.out.mono HBEL1.out.size)).below (HBEL3.out.mono (Nat.le_trans HBEL1.out.size HBEL2.out.size))).more (Nat.le_trans HBEL1.out.size (Nat.le_trans HBEL2.out.size HBEL3.out.size))
         rintro e w4 ⟨rfl, rfl⟩))
    | (at_builtin
       refine gate_dst (N := 111) rfl ?_
       go_must (
         (refine wpList_append_any _ rfl (.tmp 109) (.tmp 110) 22 rfl w1.heap.size 5 i0 _ 1 1 Try.underlying22 hi0 hz0 hz1 hz2 rfl (by omega) (.slice (some ⟨w1.heap.size, 0, none⟩) 8 8) 8 (bs [size / 16777216, size / 65536 % 256, size / 256 % 256, size % 256, off, kind, ch / 256, ch % 256]) rfl ?_ w1.heap.size A l.length c (bs l) rfl ?_ (pk_one2 l) (by simp only [maxLen]; omega) (by omega) (by simp) ?_)
         · exact blk_own (Blk.new w1 5 (bs [size / 16777216, size / 65536 % 256, size / 256 % 256, size % 256, off, kind, ch / 256, ch % 256])) (Nat.le_refl _) (by simp [bs]) (by simp [bs, maxLen])
         · exact (((H.out.below HBEL1.out).more HBEL1.out.size).alloc (Nat.le_refl _) _)
         intro v2 w2 hown2 hg2 hat2
         rw [← bs_append] at hown2
         have HBEL2 : Hid (Below w1.heap.size w1 w2) := Below.grown ((Below.refl _ w1).alloc (Nat.le_refl _) _) hg2 (by simp) (fun j hj => by simp [Value.ownBlock] at hj; omega)
         obtain ⟨N, hN⟩ : ∃ N, N = 8 + l.length := ⟨_, rfl⟩
         have hN8 : 8 ≤ N := by omega
         have hN9 : N ≤ 200 := by omega
         rw [← hN] at hown2
         obtain ⟨A2, c2, rfl, hc2, hm2⟩ := pk_form2 hown2
         have hn2 : N = ([size / 16777216, size / 65536 % 256, size / 256 % 256, size % 256, off, kind, ch / 256, ch % 256] ++ l).length := by rw [hN]; simp; omega
         have HR2 : Hid (Reads w2 w2.heap.size 1 A2 ([size / 16777216, size / 65536 % 256, size / 256 % 256, size % 256, off, kind, ch / 256, ch % 256] ++ l).length (bs ([size / 16777216, size / 65536 % 256, size / 256 % 256, size % 256, off, kind, ch / 256, ch % 256] ++ l))) := by
           rw [← hn2]; exact Reads.of_own hown2
         have HN := Lib.hid hn2
         clear hown2 hg2 hat2 hN hn2 hc2 hm2)))
  go_ret
  exact ⟨rfl, (HBEL1.out.trans (HBEL2.out.mono HBEL1.out.size)).trans (HBEL3.out.mono (Nat.le_trans HBEL1.out.size HBEL2.out.size))⟩

set_option maxHeartbeats 4000000 in
set_option maxRecDepth 100000 in
theorem FnFrameHead_cut (w : World) (A : Option Addr) (c : Nat) (size off kind ch : Int) (l : List Int) (cut : Int) (hc0 : 0 < cut) (hc8 : cut ≤ 8) (hs0 : 8 ≤ size) (hs1 : size ≤ 4294967295) (ho : 2 ≤ off) (ho1 : off ≤ 255) (hk : 0 ≤ kind) (hk1 : kind ≤ 255) (hch : 0 ≤ ch) (hch1 : ch ≤ 65535) (hb1 : l.length ≤ 100) : 
    Calls Try.prog 4 #[.int .u32 size, .int .u8 off, .int .u8 kind, .int .u16 ch, .slice A l.length c, .int .i64 cut] w fun e w' => e = .returned (.bool true) ∧ Below w.heap.size w w' := by
  have hd : decide ((2147483647 : Int) < (l.length : Int)) = false := by simp; omega
  have hd1 : decide ((100 : Int) < (l.length : Int)) = false := by simp; omega
  have hd2 : decide (size < 8) = false := by simp; omega
  have hd3 : decide (off < 2) = false := by simp; omega
  obtain rfl | rfl | rfl | rfl | rfl | rfl | rfl | rfl : cut = 1 ∨ cut = 2 ∨ cut = 3 ∨ cut = 4 ∨ cut = 5 ∨ cut = 6 ∨ cut = 7 ∨ cut = 8 := by omega
  · go_enter Try.func4, Try.ntmps4
    go_wp2_with (
      (go_at_call 6)
      go_must (first
        | ((refine (FrameHead_no _ (some ⟨w1.heap.size, 0, none⟩) 8 7 (([size / 16777216, size / 65536 % 256, size / 256 % 256, size % 256, off, kind, ch / 256, ch % 256]).take 7) rfl ((((reads_lit2 w1 5 [size / 16777216, size / 65536 % 256, size / 256 % 256, size % 256, off, kind, ch / 256, ch % 256] _ rfl).more (by simp)).take1 (k := 7) (by simp)) ) (by omega)).mono ?_)
           rintro e w2 ⟨rfl, hbel2⟩
           have HBEL2 : Hid (Below w1.heap.size w1 w2) := ((Below.refl _ w1).alloc (Nat.le_refl _) _).trans (hbel2.mono (by simp))
           clear hbel2)
        | ((refine (FrameHead_yes _ (some ⟨w.heap.size, 0, none⟩) 8 8 [0, 0, 0, 8, 2, 0, 0, 1] [] rfl rfl ((reads_lit2 w 5 [0, 0, 0, 8, 2, 0, 0, 1] _ rfl).more (by simp)) (by omega) (by omega) 0 0 0 8 2 0 0 1 8 (by omega) (by omega) (by omega) (by omega) (by omega) (by omega) (by omega) (by omega) (by omega) (by omega) (by omega) (by omega) (by omega) (by omega) (by omega) (by omega) rfl rfl rfl rfl rfl rfl rfl rfl).mono ?_)
           rintro e w1 ⟨g1, cs1, rfl, hb1, ht1, hcs1, hbel1⟩
           have HBEL1 : Hid (Below w.heap.size w w1) := ((Below.refl _ w).alloc (Nat.le_refl _) _).trans (hbel1.mono (by simp))
           clear hb1 ht1 hcs1 hbel1)))
    go_ret
    exact ⟨rfl, HBEL1.out.trans (HBEL2.out.mono HBEL1.out.size)⟩
  · go_enter Try.func4, Try.ntmps4
    go_wp2_with (
      (go_at_call 6)
      go_must (first
        | ((refine (FrameHead_no _ (some ⟨w1.heap.size, 0, none⟩) 8 6 (([size / 16777216, size / 65536 % 256, size / 256 % 256, size % 256, off, kind, ch / 256, ch % 256]).take 6) rfl ((((reads_lit2 w1 5 [size / 16777216, size / 65536 % 256, size / 256 % 256, size % 256, off, kind, ch / 256, ch % 256] _ rfl).more (by simp)).take1 (k := 6) (by simp)) ) (by omega)).mono ?_)
           rintro e w2 ⟨rfl, hbel2⟩
           have HBEL2 : Hid (Below w1.heap.size w1 w2) := ((Below.refl _ w1).alloc (Nat.le_refl _) _).trans (hbel2.mono (by simp))
           clear hbel2)
        | ((refine (FrameHead_yes _ (some ⟨w.heap.size, 0, none⟩) 8 8 [0, 0, 0, 8, 2, 0, 0, 1] [] rfl rfl ((reads_lit2 w 5 [0, 0, 0, 8, 2, 0, 0, 1] _ rfl).more (by simp)) (by omega) (by omega) 0 0 0 8 2 0 0 1 8 (by omega) (by omega) (by omega) (by omega) (by omega) (by omega) (by omega) (by omega) (by omega) (by omega) (by omega) (by omega) (by omega) (by omega) (by omega) (by omega) rfl rfl rfl rfl rfl rfl rfl rfl).mono ?_)
           rintro e w1 ⟨g1, cs1, rfl, hb1, ht1, hcs1, hbel1⟩
           have HBEL1 : Hid (Below w.heap.size w w1) := ((Below.refl _ w).alloc (Nat.le_refl _) _).trans (hbel1.mono (by simp))
           clear hb1 ht1 hcs1 hbel1)))
    go_ret
    exact ⟨rfl, HBEL1.out.trans (HBEL2.out.mono HBEL1.out.size)⟩
  · go_enter Try.func4, Try.ntmps4
    go_wp2_with (
      (go_at_call 6)
      go_must (first
        | ((refine (FrameHead_no _ (some ⟨w1.heap.size, 0, none⟩) 8 5 (([size / 16777216, size / 65536 % 256, size / 256 % 256, size % 256, off, kind, ch / 256, ch % 256]).take 5) rfl ((((reads_lit2 w1 5 [size / 16777216, size / 65536 % 256, size / 256 % 256, size % 256, off, kind, ch / 256, ch % 256] _ rfl).more (by simp)).take1 (k := 5) (by simp)) ) (by omega)).mono ?_)
           rintro e w2 ⟨rfl, hbel2⟩
           have HBEL2 : Hid (Below w1.heap.size w1 w2) := ((Below.refl _ w1).alloc (Nat.le_refl _) _).trans (hbel2.mono (by simp))
           clear hbel2)
        | ((refine (FrameHead_yes _ (some ⟨w.heap.size, 0, none⟩) 8 8 [0, 0, 0, 8, 2, 0, 0, 1] [] rfl rfl ((reads_lit2 w 5 [0, 0, 0, 8, 2, 0, 0, 1] _ rfl).more (by simp)) (by omega) (by omega) 0 0 0 8 2 0 0 1 8 (by omega) (by omega) (by omega) (by omega) (by omega) (by omega) (by omega) (by omega) (by omega) (by omega) (by omega) (by omega) (by omega) (by omega) (by omega) (by omega) rfl rfl rfl rfl rfl rfl rfl rfl).mono ?_)
           rintro e w1 ⟨g1, cs1, rfl, hb1, ht1, hcs1, hbel1⟩
           have HBEL1 : Hid (Below w.heap.size w w1) := ((Below.refl _ w).alloc (Nat.le_refl _) _).trans (hbel1.mono (by simp))
           clear hb1 ht1 hcs1 hbel1)))
    go_ret
    exact ⟨rfl, HBEL1.out.trans (HBEL2.out.mono HBEL1.out.size)⟩
  · go_enter Try.func4, Try.ntmps4
    go_wp2_with (
      (go_at_call 6)
      go_must (first
        | ((refine (FrameHead_no _ (some ⟨w1.heap.size, 0, none⟩) 8 4 (([size / 16777216, size / 65536 % 256, size / 256 % 256, size % 256, off, kind, ch / 256, ch % 256]).take 4) rfl ((((reads_lit2 w1 5 [size / 16777216, size / 65536 % 256, size / 256 % 256, size % 256, off, kind, ch / 256, ch % 256] _ rfl).more (by simp)).take1 (k := 4) (by simp)) ) (by omega)).mono ?_)
           rintro e w2 ⟨rfl, hbel2⟩
           have HBEL2 : Hid (Below w1.heap.size w1 w2) := ((Below.refl _ w1).alloc (Nat.le_refl _) _).trans (hbel2.mono (by simp))
           clear hbel2)
        | ((refine (FrameHead_yes _ (some ⟨w.heap.size, 0, none⟩) 8 8 [0, 0, 0, 8, 2, 0, 0, 1] [] rfl rfl ((reads_lit2 w 5 [0, 0, 0, 8, 2, 0, 0, 1] _ rfl).more (by simp)) (by omega) (by omega) 0 0 0 8 2 0 0 1 8 (by omega) (by omega) (by omega) (by omega) (by omega) (by omega) (by omega) (by omega) (by omega) (by omega) (by omega) (by omega) (by omega) (by omega) (by omega) (by omega) rfl rfl rfl rfl rfl rfl rfl rfl).mono ?_)
           rintro e w1 ⟨g1, cs1, rfl, hb1, ht1, hcs1, hbel1⟩
           have HBEL1 : Hid (Below w.heap.size w w1) := ((Below.refl _ w).alloc (Nat.le_refl _) _).trans (hbel1.mono (by simp))
           clear hb1 ht1 hcs1 hbel1)))
    go_ret
    exact ⟨rfl, HBEL1.out.trans (HBEL2.out.mono HBEL1.out.size)⟩
  · go_enter Try.func4, Try.ntmps4
    go_wp2_with (
      (go_at_call 6)
      go_must (first
        | ((refine (FrameHead_no _ (some ⟨w1.heap.size, 0, none⟩) 8 3 (([size / 16777216, size / 65536 % 256, size / 256 % 256, size % 256, off, kind, ch / 256, ch % 256]).take 3) rfl ((((reads_lit2 w1 5 [size / 16777216, size / 65536 % 256, size / 256 % 256, size % 256, off, kind, ch / 256, ch % 256] _ rfl).more (by simp)).take1 (k := 3) (by simp)) ) (by omega)).mono ?_)
           rintro e w2 ⟨rfl, hbel2⟩
           have HBEL2 : Hid (Below w1.heap.size w1 w2) := ((Below.refl _ w1).alloc (Nat.le_refl _) _).trans (hbel2.mono (by simp))
           clear hbel2)
        | ((refine (FrameHead_yes _ (some ⟨w.heap.size, 0, none⟩) 8 8 [0, 0, 0, 8, 2, 0, 0, 1] [] rfl rfl ((reads_lit2 w 5 [0, 0, 0, 8, 2, 0, 0, 1] _ rfl).more (by simp)) (by omega) (by omega) 0 0 0 8 2 0 0 1 8 (by omega) (by omega) (by omega) (by omega) (by omega) (by omega) (by omega) (by omega) (by omega) (by omega) (by omega) (by omega) (by omega) (by omega) (by omega) (by omega) rfl rfl rfl rfl rfl rfl rfl rfl).mono ?_)
           rintro e w1 ⟨g1, cs1, rfl, hb1, ht1, hcs1, hbel1⟩
           have HBEL1 : Hid (Below w.heap.size w w1) := ((Below.refl _ w).alloc (Nat.le_refl _) _).trans (hbel1.mono (by simp))
           clear hb1 ht1 hcs1 hbel1)))
    go_ret
    exact ⟨rfl, HBEL1.out.trans (HBEL2.out.mono HBEL1.out.size)⟩
  · go_enter Try.func4, Try.ntmps4
    go_wp2_with (
      (go_at_call 6)
      go_must (first
        | ((refine (FrameHead_no _ (some ⟨w1.heap.size, 0, none⟩) 8 2 (([size / 16777216, size / 65536 % 256, size / 256 % 256, size % 256, off, kind, ch / 256, ch % 256]).take 2) rfl ((((reads_lit2 w1 5 [size / 16777216, size / 65536 % 256, size / 256 % 256, size % 256, off, kind, ch / 256, ch % 256] _ rfl).more (by simp)).take1 (k := 2) (by simp)) ) (by omega)).mono ?_)
           rintro e w2 ⟨rfl, hbel2⟩
           have HBEL2 : Hid (Below w1.heap.size w1 w2) := ((Below.refl _ w1).alloc (Nat.le_refl _) _).trans (hbel2.mono (by simp))
           clear hbel2)
        | ((refine (FrameHead_yes _ (some ⟨w.heap.size, 0, none⟩) 8 8 [0, 0, 0, 8, 2, 0, 0, 1] [] rfl rfl ((reads_lit2 w 5 [0, 0, 0, 8, 2, 0, 0, 1] _ rfl).more (by simp)) (by omega) (by omega) 0 0 0 8 2 0 0 1 8 (by omega) (by omega) (by omega) (by omega) (by omega) (by omega) (by omega) (by omega) (by omega) (by omega) (by omega) (by omega) (by omega) (by omega) (by omega) (by omega) rfl rfl rfl rfl rfl rfl rfl rfl).mono ?_)
           rintro e w1 ⟨g1, cs1, rfl, hb1, ht1, hcs1, hbel1⟩
           have HBEL1 : Hid (Below w.heap.size w w1) := ((Below.refl _ w).alloc (Nat.le_refl _) _).trans (hbel1.mono (by simp))
           clear hb1 ht1 hcs1 hbel1)))
    go_ret
    exact ⟨rfl, HBEL1.out.trans (HBEL2.out.mono HBEL1.out.size)⟩
  · go_enter Try.func4, Try.ntmps4
    go_wp2_with (
      (go_at_call 6)
      go_must (first
        | ((refine (FrameHead_no _ (some ⟨w1.heap.size, 0, none⟩) 8 1 (([size / 16777216, size / 65536 % 256, size / 256 % 256, size % 256, off, kind, ch / 256, ch % 256]).take 1) rfl ((((reads_lit2 w1 5 [size / 16777216, size / 65536 % 256, size / 256 % 256, size % 256, off, kind, ch / 256, ch % 256] _ rfl).more (by simp)).take1 (k := 1) (by simp)) ) (by omega)).mono ?_)
           rintro e w2 ⟨rfl, hbel2⟩
           have HBEL2 : Hid (Below w1.heap.size w1 w2) := ((Below.refl _ w1).alloc (Nat.le_refl _) _).trans (hbel2.mono (by simp))
           clear hbel2)
        | ((refine (FrameHead_yes _ (some ⟨w.heap.size, 0, none⟩) 8 8 [0, 0, 0, 8, 2, 0, 0, 1] [] rfl rfl ((reads_lit2 w 5 [0, 0, 0, 8, 2, 0, 0, 1] _ rfl).more (by simp)) (by omega) (by omega) 0 0 0 8 2 0 0 1 8 (by omega) (by omega) (by omega) (by omega) (by omega) (by omega) (by omega) (by omega) (by omega) (by omega) (by omega) (by omega) (by omega) (by omega) (by omega) (by omega) rfl rfl rfl rfl rfl rfl rfl rfl).mono ?_)
           rintro e w1 ⟨g1, cs1, rfl, hb1, ht1, hcs1, hbel1⟩
           have HBEL1 : Hid (Below w.heap.size w w1) := ((Below.refl _ w).alloc (Nat.le_refl _) _).trans (hbel1.mono (by simp))
           clear hb1 ht1 hcs1 hbel1)))
    go_ret
    exact ⟨rfl, HBEL1.out.trans (HBEL2.out.mono HBEL1.out.size)⟩
  · go_enter Try.func4, Try.ntmps4
    go_wp2_with (
      (go_at_call 6)
      go_must (first
        | ((refine (FrameHead_no _ (some ⟨w1.heap.size, 0, none⟩) 8 0 (([size / 16777216, size / 65536 % 256, size / 256 % 256, size % 256, off, kind, ch / 256, ch % 256]).take 0) rfl ((((reads_lit2 w1 5 [size / 16777216, size / 65536 % 256, size / 256 % 256, size % 256, off, kind, ch / 256, ch % 256] _ rfl).more (by simp)).take1 (k := 0) (by simp)) ) (by omega)).mono ?_)
           rintro e w2 ⟨rfl, hbel2⟩
           have HBEL2 : Hid (Below w1.heap.size w1 w2) := ((Below.refl _ w1).alloc (Nat.le_refl _) _).trans (hbel2.mono (by simp))
           clear hbel2)
        | ((refine (FrameHead_yes _ (some ⟨w.heap.size, 0, none⟩) 8 8 [0, 0, 0, 8, 2, 0, 0, 1] [] rfl rfl ((reads_lit2 w 5 [0, 0, 0, 8, 2, 0, 0, 1] _ rfl).more (by simp)) (by omega) (by omega) 0 0 0 8 2 0 0 1 8 (by omega) (by omega) (by omega) (by omega) (by omega) (by omega) (by omega) (by omega) (by omega) (by omega) (by omega) (by omega) (by omega) (by omega) (by omega) (by omega) rfl rfl rfl rfl rfl rfl rfl rfl).mono ?_)
           rintro e w1 ⟨g1, cs1, rfl, hb1, ht1, hcs1, hbel1⟩
           have HBEL1 : Hid (Below w.heap.size w w1) := ((Below.refl _ w).alloc (Nat.le_refl _) _).trans (hbel1.mono (by simp))
           clear hb1 ht1 hcs1 hbel1)))
    go_ret
    exact ⟨rfl, HBEL1.out.trans (HBEL2.out.mono HBEL1.out.size)⟩

set_option maxHeartbeats 4000000 in
set_option maxRecDepth 100000 in
theorem FnFrameHead_o0 (w : World) (A : Option Addr) (c : Nat) (size off kind ch : Int) (l : List Int) (cut : Int) (hz : ¬ 2147483647 < l.length)  (hb : size < 8) : 
    Calls Try.prog 4 #[.int .u32 size, .int .u8 off, .int .u8 kind, .int .u16 ch, .slice A l.length c, .int .i64 cut] w fun e w' => e = .returned (.bool true) ∧ Below w.heap.size w w' := by
  have hd : decide ((2147483647 : Int) < (l.length : Int)) = false := by simp; omega
  have hd1 : decide (size < 8) = true := by simp; omega
  go_enter Try.func4, Try.ntmps4
  go_wp2_with (
    (go_at_call 6)
    go_must (first
        | ((refine (FrameHead_yes _ (some ⟨w.heap.size, 0, none⟩) 8 8 [0, 0, 0, 8, 2, 0, 0, 1] [] rfl rfl ((reads_lit2 w 5 [0, 0, 0, 8, 2, 0, 0, 1] _ rfl).more (by simp)) (by omega) (by omega) 0 0 0 8 2 0 0 1 8 (by omega) (by omega) (by omega) (by omega) (by omega) (by omega) (by omega) (by omega) (by omega) (by omega) (by omega) (by omega) (by omega) (by omega) (by omega) (by omega) rfl rfl rfl rfl rfl rfl rfl rfl).mono ?_)
           rintro e w1 ⟨g1, cs1, rfl, hb1, ht1, hcs1, hbel1⟩
           have HBEL1 : Hid (Below w.heap.size w w1) := ((Below.refl _ w).alloc (Nat.le_refl _) _).trans (hbel1.mono (by simp))
           clear hb1 ht1 hcs1 hbel1)))
  go_ret
  exact ⟨rfl, HBEL1.out⟩

set_option maxHeartbeats 4000000 in
set_option maxRecDepth 100000 in
theorem FnFrameHead_o1 (w : World) (A : Option Addr) (c : Nat) (size off kind ch : Int) (l : List Int) (cut : Int) (hz : ¬ 2147483647 < l.length) (h0 : ¬ size < 8) (hb : off < 2) : 
    Calls Try.prog 4 #[.int .u32 size, .int .u8 off, .int .u8 kind, .int .u16 ch, .slice A l.length c, .int .i64 cut] w fun e w' => e = .returned (.bool true) ∧ Below w.heap.size w w' := by
  have hd : decide ((2147483647 : Int) < (l.length : Int)) = false := by simp; omega
  have hd1 : decide (size < 8) = false := by simp; omega
  have hd2 : decide (off < 2) = true := by simp; omega
  go_enter Try.func4, Try.ntmps4
  go_wp2_with (
    (go_at_call 6)
    go_must (first
        | ((refine (FrameHead_yes _ (some ⟨w.heap.size, 0, none⟩) 8 8 [0, 0, 0, 8, 2, 0, 0, 1] [] rfl rfl ((reads_lit2 w 5 [0, 0, 0, 8, 2, 0, 0, 1] _ rfl).more (by simp)) (by omega) (by omega) 0 0 0 8 2 0 0 1 8 (by omega) (by omega) (by omega) (by omega) (by omega) (by omega) (by omega) (by omega) (by omega) (by omega) (by omega) (by omega) (by omega) (by omega) (by omega) (by omega) rfl rfl rfl rfl rfl rfl rfl rfl).mono ?_)
           rintro e w1 ⟨g1, cs1, rfl, hb1, ht1, hcs1, hbel1⟩
           have HBEL1 : Hid (Below w.heap.size w w1) := ((Below.refl _ w).alloc (Nat.le_refl _) _).trans (hbel1.mono (by simp))
           clear hb1 ht1 hcs1 hbel1)))
  go_ret
  exact ⟨rfl, HBEL1.out⟩

set_option maxHeartbeats 4000000 in
set_option maxRecDepth 100000 in
theorem FnFrameHead_o2 (w : World) (A : Option Addr) (c : Nat) (size off kind ch : Int) (l : List Int) (cut : Int) (hz : ¬ 2147483647 < l.length) (h0 : ¬ size < 8) (h1 : ¬ off < 2) (hb : 100 < l.length) : 
    Calls Try.prog 4 #[.int .u32 size, .int .u8 off, .int .u8 kind, .int .u16 ch, .slice A l.length c, .int .i64 cut] w fun e w' => e = .returned (.bool true) ∧ Below w.heap.size w w' := by
  have hd : decide ((2147483647 : Int) < (l.length : Int)) = false := by simp; omega
  have hd1 : decide (size < 8) = false := by simp; omega
  have hd2 : decide (off < 2) = false := by simp; omega
  have hd3 : decide ((100 : Int) < (l.length : Int)) = true := by simp; omega
  go_enter Try.func4, Try.ntmps4
  go_wp2_with (
    (go_at_call 6)
    go_must (first
        | ((refine (FrameHead_yes _ (some ⟨w.heap.size, 0, none⟩) 8 8 [0, 0, 0, 8, 2, 0, 0, 1] [] rfl rfl ((reads_lit2 w 5 [0, 0, 0, 8, 2, 0, 0, 1] _ rfl).more (by simp)) (by omega) (by omega) 0 0 0 8 2 0 0 1 8 (by omega) (by omega) (by omega) (by omega) (by omega) (by omega) (by omega) (by omega) (by omega) (by omega) (by omega) (by omega) (by omega) (by omega) (by omega) (by omega) rfl rfl rfl rfl rfl rfl rfl rfl).mono ?_)
           rintro e w1 ⟨g1, cs1, rfl, hb1, ht1, hcs1, hbel1⟩
           have HBEL1 : Hid (Below w.heap.size w w1) := ((Below.refl _ w).alloc (Nat.le_refl _) _).trans (hbel1.mono (by simp))
           clear hb1 ht1 hcs1 hbel1)))
  go_ret
  exact ⟨rfl, HBEL1.out⟩

set_option maxHeartbeats 4000000 in
set_option maxRecDepth 100000 in
theorem FnFrameHead_o3 (w : World) (A : Option Addr) (c : Nat) (size off kind ch : Int) (l : List Int) (cut : Int) (hz : ¬ 2147483647 < l.length) (h0 : ¬ size < 8) (h1 : ¬ off < 2) (h2 : ¬ 100 < l.length) (hb : cut < 0) : 
    Calls Try.prog 4 #[.int .u32 size, .int .u8 off, .int .u8 kind, .int .u16 ch, .slice A l.length c, .int .i64 cut] w fun e w' => e = .returned (.bool true) ∧ Below w.heap.size w w' := by
  have hd : decide ((2147483647 : Int) < (l.length : Int)) = false := by simp; omega
  have hd1 : decide (size < 8) = false := by simp; omega
  have hd2 : decide (off < 2) = false := by simp; omega
  have hd3 : decide ((100 : Int) < (l.length : Int)) = false := by simp; omega
  have hd4 : decide (cut < 0) = true := by simp; omega
  go_enter Try.func4, Try.ntmps4
  go_wp2_with (
    (go_at_call 6)
    go_must (first
        | ((refine (FrameHead_yes _ (some ⟨w.heap.size, 0, none⟩) 8 8 [0, 0, 0, 8, 2, 0, 0, 1] [] rfl rfl ((reads_lit2 w 5 [0, 0, 0, 8, 2, 0, 0, 1] _ rfl).more (by simp)) (by omega) (by omega) 0 0 0 8 2 0 0 1 8 (by omega) (by omega) (by omega) (by omega) (by omega) (by omega) (by omega) (by omega) (by omega) (by omega) (by omega) (by omega) (by omega) (by omega) (by omega) (by omega) rfl rfl rfl rfl rfl rfl rfl rfl).mono ?_)
           rintro e w1 ⟨g1, cs1, rfl, hb1, ht1, hcs1, hbel1⟩
           have HBEL1 : Hid (Below w.heap.size w w1) := ((Below.refl _ w).alloc (Nat.le_refl _) _).trans (hbel1.mono (by simp))
           clear hb1 ht1 hcs1 hbel1)))
  go_ret
  exact ⟨rfl, HBEL1.out⟩

set_option maxHeartbeats 4000000 in
set_option maxRecDepth 100000 in
theorem FnFrameHead_o4 (w : World) (A : Option Addr) (c : Nat) (size off kind ch : Int) (l : List Int) (cut : Int) (hz : ¬ 2147483647 < l.length) (h0 : ¬ size < 8) (h1 : ¬ off < 2) (h2 : ¬ 100 < l.length) (h3 : ¬ cut < 0) (hb : 8 < cut) : 
    Calls Try.prog 4 #[.int .u32 size, .int .u8 off, .int .u8 kind, .int .u16 ch, .slice A l.length c, .int .i64 cut] w fun e w' => e = .returned (.bool true) ∧ Below w.heap.size w w' := by
  have hd : decide ((2147483647 : Int) < (l.length : Int)) = false := by simp; omega
  have hd1 : decide (size < 8) = false := by simp; omega
  have hd2 : decide (off < 2) = false := by simp; omega
  have hd3 : decide ((100 : Int) < (l.length : Int)) = false := by simp; omega
  have hd4 : decide (cut < 0) = false := by simp; omega
  have hd5 : decide (8 < cut) = true := by simp; omega
  go_enter Try.func4, Try.ntmps4
  go_wp2_with (
    (go_at_call 6)
    go_must (first
        | ((refine (FrameHead_yes _ (some ⟨w.heap.size, 0, none⟩) 8 8 [0, 0, 0, 8, 2, 0, 0, 1] [] rfl rfl ((reads_lit2 w 5 [0, 0, 0, 8, 2, 0, 0, 1] _ rfl).more (by simp)) (by omega) (by omega) 0 0 0 8 2 0 0 1 8 (by omega) (by omega) (by omega) (by omega) (by omega) (by omega) (by omega) (by omega) (by omega) (by omega) (by omega) (by omega) (by omega) (by omega) (by omega) (by omega) rfl rfl rfl rfl rfl rfl rfl rfl).mono ?_)
           rintro e w1 ⟨g1, cs1, rfl, hb1, ht1, hcs1, hbel1⟩
           have HBEL1 : Hid (Below w.heap.size w w1) := ((Below.refl _ w).alloc (Nat.le_refl _) _).trans (hbel1.mono (by simp))
           clear hb1 ht1 hcs1 hbel1)))
  go_ret
  exact ⟨rfl, HBEL1.out⟩

theorem FnFrameHead_walk (w : World) (A : Option Addr) (c : Nat) (size off kind ch : Int) (l : List Int) (cut : Int) (h : Reads w w.heap.size 1 A l.length (bs l)) (hs0 : 0 ≤ size) (hs1 : size ≤ 4294967295) (ho : 0 ≤ off) (ho1 : off ≤ 255) (hk : 0 ≤ kind) (hk1 : kind ≤ 255) (hch : 0 ≤ ch) (hch1 : ch ≤ 65535) :
    Calls Try.prog 4 #[.int .u32 size, .int .u8 off, .int .u8 kind, .int .u16 ch, .slice A l.length c, .int .i64 cut] w fun e w' => e = .returned (.bool true) ∧ Below w.heap.size w w' := by
  by_cases hz : 2147483647 < l.length
  · have hd : decide ((2147483647 : Int) < (l.length : Int)) = true := by simp; omega
    go_enter Try.func4, Try.ntmps4
    go_wp2
    go_ret
    exact ⟨rfl, Below.refl _ _⟩
  by_cases c0 : size < 8
  · exact FnFrameHead_o0 w A c size off kind ch l cut hz c0
  by_cases c1 : off < 2
  · exact FnFrameHead_o1 w A c size off kind ch l cut hz c0 c1
  by_cases c2 : 100 < l.length
  · exact FnFrameHead_o2 w A c size off kind ch l cut hz c0 c1 c2
  by_cases c3 : cut < 0
  · exact FnFrameHead_o3 w A c size off kind ch l cut hz c0 c1 c2 c3
  by_cases c4 : 8 < cut
  · exact FnFrameHead_o4 w A c size off kind ch l cut hz c0 c1 c2 c3 c4
  by_cases c5 : cut = 0
  · subst c5
    exact FnFrameHead_yes w A c size off kind ch l h (by omega) hs1 (by omega) ho1 hk hk1 hch hch1 (by omega)
  · exact FnFrameHead_cut w A c size off kind ch l cut (by omega) (by omega) (by omega) hs1 (by omega) ho1 hk hk1 hch hch1 (by omega)
end Go.Proofs.Ytpkfmcnbodnpeaa
