/- AMQP: the walk of FnPeekSection. PRINTED by wip/genpeek.py. -/
import Derived.Test.YtpkfmcnbodnpeaaAq
namespace Go.Proofs.Ytpkfmcnbodnpeaa
open Go.RowKit
set_option linter.unusedVariables false
theorem pk_form {w : World} {base n : Nat} {e : TypeId} {size : Nat} {v : Value} {xs : List Value} (h : w.ownsRow base e size v n xs) : ∃ A c, v = .slice A n c ∧ n ≤ c ∧ c ≤ maxLen := by
  rcases h.2 with ⟨rfl, rfl⟩ | ⟨g, cap, cur, rfl, _, _, h1, h2, _⟩
  · exact ⟨none, 0, rfl, Nat.le_refl _, by simp [maxLen]⟩
  · exact ⟨_, cap, rfl, h1, h2⟩
theorem reads_lit (w : World) (t : TypeId) (l : List Int) (b : Nat) (hb : b = w.heap.size) : Reads (w.alloc (.cells (bs l).toArray t)) (b + 1) 1 (some ⟨b, 0, none⟩) l.length (bs l) := by
  subst hb
  have hl : l.length ≤ (bs l).length := by simp [bs]
  have h := (Blk.new w t (bs l)).reads 0 l.length (by omega)
  rwa [List.drop_zero, List.take_of_length_le (by simp [bs])] at h
theorem own_new (w : World) (t : TypeId) (b base : Nat) (hb : b = w.heap.size) (h : base ≤ b) : (w.alloc (.cells #[] t)).ownsRow base t 1 (.slice (some ⟨b, 0, none⟩) 0 0) 0 [] := by
  subst hb
  exact World.ownsRow_made w #[] 0 h (by simp [maxLen]) (by simp)
theorem pk_one (l : List Int) : ∀ v ∈ bs l, v.oneCell' = true := by
  intro v hv; simp only [bs, List.mem_map] at hv; obtain ⟨y, _, rfl⟩ := hv; rfl

set_option maxHeartbeats 4000000 in
set_option maxRecDepth 100000 in
theorem FnPeekSection_out (w : World) (A : Option Addr) (c : Nat) (code : Int) (long : Bool) (l : List Int) (hb : l.length < 1 ∨ 100 < l.length) :
    Calls Try.prog 3 #[.int .u8 code, .bool long, .slice A l.length c] w fun e w' => e = .returned (.bool true) ∧ Below w.heap.size w w' := by
  by_cases hz : 2147483647 < l.length
  · have hd : decide ((2147483647 : Int) < (l.length : Int)) = true := by simp; omega
    go_enter Try.func3, Try.ntmps3
    go_wp2
    go_ret
    exact ⟨rfl, Below.refl _ _⟩
  have hd : decide ((2147483647 : Int) < (l.length : Int)) = false := by simp; omega
  rcases hb with hb | hb
  · obtain rfl : l = [] := List.eq_nil_of_length_eq_zero (by omega)
    go_enter Try.func3, Try.ntmps3
    go_wp2_with (
      (go_at_call 5)
      go_must (first
        | ((refine (PeekSection_short _ (some ⟨w.heap.size, 0, none⟩) 4 [0, 83, 112, 69] 112 ((reads_lit w 5 [0, 83, 112, 69] _ rfl).more (by simp)) (by omega) (by omega) (by simp) (by simp) rfl rfl rfl).mono ?_)
           rintro e w1 ⟨rfl, hbel1⟩
           have HBEL1 : Hid (Below w.heap.size w w1) := ((Below.refl _ w).alloc (Nat.le_refl _) _).trans (hbel1.mono (by simp))
           clear hbel1)))
    go_ret
    exact ⟨rfl, HBEL1.out⟩
  · have hd1 : decide ((l.length : Int) < 1) = false := by simp; omega
    have hd2 : decide ((100 : Int) < (l.length : Int)) = true := by simp; omega
    go_enter Try.func3, Try.ntmps3
    go_wp2_with (
      (go_at_call 5)
      go_must (first
        | ((refine (PeekSection_short _ (some ⟨w.heap.size, 0, none⟩) 4 [0, 83, 112, 69] 112 ((reads_lit w 5 [0, 83, 112, 69] _ rfl).more (by simp)) (by omega) (by omega) (by simp) (by simp) rfl rfl rfl).mono ?_)
           rintro e w1 ⟨rfl, hbel1⟩
           have HBEL1 : Hid (Below w.heap.size w w1) := ((Below.refl _ w).alloc (Nat.le_refl _) _).trans (hbel1.mono (by simp))
           clear hbel1)))
    go_ret
    exact ⟨rfl, HBEL1.out⟩

set_option maxHeartbeats 4000000 in
set_option maxRecDepth 100000 in
theorem FnPeekSection_short (w : World) (A : Option Addr) (c : Nat) (code : Int) (l : List Int) (h : Reads w w.heap.size 1 A l.length (bs l)) (h0 : 0 ≤ code) (h1 : code ≤ 255) (hb0 : 1 ≤ l.length) (hb1 : l.length ≤ 100) :
    Calls Try.prog 3 #[.int .u8 code, .bool false, .slice A l.length c] w fun e w' => e = .returned (.bool true) ∧ Below w.heap.size w w' := by
  have hd : decide ((2147483647 : Int) < (l.length : Int)) = false := by simp; omega
  have hd1 : decide ((l.length : Int) < 1) = false := by simp; omega
  have hd2 : decide ((100 : Int) < (l.length : Int)) = false := by simp; omega
  obtain ⟨i0, hi0, hz0, hz1, hz2⟩ := info_parts infoU8
  have H := Lib.hid h
  clear h
  go_enter Try.func3, Try.ntmps3
  go_wp2_with (first
    | (go_at_call 5
       go_must (first
        | ((have hp := PeekSection_short w3 A2 c2 ([0, 83, code] ++ l) code HR3.out h0 h1 (by simp) (by simp; omega) rfl rfl rfl)
           rw [← HN.out] at hp
           refine hp.mono ?_
           rintro e w4 ⟨rfl, hbel4⟩
           have HBEL4 := Lib.hid hbel4
           clear hbel4 hp)
        | ((refine (PeekSection_short _ (some ⟨w.heap.size, 0, none⟩) 4 [0, 83, 112, 69] 112 ((reads_lit w 5 [0, 83, 112, 69] _ rfl).more (by simp)) (by omega) (by omega) (by simp) (by simp) rfl rfl rfl).mono ?_)
           rintro e w1 ⟨rfl, hbel1⟩
           have HBEL1 : Hid (Below w.heap.size w w1) := ((Below.refl _ w).alloc (Nat.le_refl _) _).trans (hbel1.mono (by simp))
           clear hbel1)))
    | (at_builtin
       go_must (first
        | ((refine wpList_append_any _ rfl (.tmp 50) (.tmp 51) 22 rfl w1.heap.size 5 i0 _ 1 1 Try.underlying22 hi0 hz0 hz1 hz2 rfl (by omega) v1 _ _ rfl HO1.out w1.heap.size A l.length c (bs l) rfl (((H.out.below HBEL1.out).more HBEL1.out.size).below HB2.out) (pk_one l) (by simp only [maxLen]; omega) (by omega) HB2.out.size ?_)
           intro v2 w3 hown2 hg2 hat2
           have e1 : 0 + 3 + l.length = ([0, 83, code] ++ l).length := by simp; omega
           have e2 : [] ++ bs [0, 83, code] ++ bs l = bs ([0, 83, code] ++ l) := by simp [bs]
           rw [e1, e2] at hown2
           have HBEL3 : Hid (Below w1.heap.size w1 w3) := HB2.out.grown hg2 HB2.out.size (fun j hj => (HO1.out.lt j hj).1)
           obtain ⟨N, hN⟩ : ∃ N, N = ([0, 83, code] ++ l).length := ⟨_, rfl⟩
           rw [← hN] at hown2
           obtain ⟨A2, c2, rfl, hc2, hm2⟩ := pk_form hown2
           have HR3 : Hid (Reads w3 w3.heap.size 1 A2 ([0, 83, code] ++ l).length (bs ([0, 83, code] ++ l))) := by
             have := Reads.of_own hown2
             rw [hN] at this
             exact this
           have HN := Lib.hid hN
           clear hown2 hg2 hat2 e1 e2 hN hc2)
        | ((refine wpList_append_any _ rfl (.tmp 48) (.tmp 49) 22 rfl w1.heap.size 5 i0 _ 1 1 Try.underlying22 hi0 hz0 hz1 hz2 rfl (by omega) (.slice (some ⟨w1.heap.size + 1, 0, none⟩) 0 0) 0 [] rfl ?_ (w1.heap.size + 1) (some ⟨w1.heap.size, 0, none⟩) 3 3 (bs [0, 83, code]) rfl ?_ (pk_one _) (by simp only [maxLen]; omega) (by omega) (by simp; omega) ?_)
           · exact own_new (w1.alloc (.cells (bs [0, 83, code]).toArray 5)) 5 (w1.heap.size + 1) w1.heap.size (by simp) (by omega)
           · exact (reads_lit w1 5 [0, 83, code] (w1.heap.size) (by simp)).alloc (by simp) _
           intro v1 w2 hown1 hg1 hat1
           have HB2 : Hid (Below w1.heap.size w1 w2) := Below.grown (((Below.refl _ w1).alloc (Nat.le_refl _) _).alloc (by simp) _) hg1 (by simp; omega) (fun j hj => by simp [Value.ownBlock] at hj; simp at *; omega)
           have HO1 := Lib.hid hown1
           clear hown1 hg1 hat1))))
  go_ret
  exact ⟨rfl, (HBEL1.out.trans (HBEL3.out.mono HBEL1.out.size)).trans (HBEL4.out.mono (Nat.le_trans HBEL1.out.size HBEL3.out.size))⟩

set_option maxHeartbeats 4000000 in
set_option maxRecDepth 100000 in
theorem FnPeekSection_long (w : World) (A : Option Addr) (c : Nat) (code : Int) (l : List Int) (h : Reads w w.heap.size 1 A l.length (bs l)) (h0 : 0 ≤ code) (h1 : code ≤ 255) (hb0 : 1 ≤ l.length) (hb1 : l.length ≤ 100) :
    Calls Try.prog 3 #[.int .u8 code, .bool true, .slice A l.length c] w fun e w' => e = .returned (.bool true) ∧ Below w.heap.size w w' := by
  have hd : decide ((2147483647 : Int) < (l.length : Int)) = false := by simp; omega
  have hd1 : decide ((l.length : Int) < 1) = false := by simp; omega
  have hd2 : decide ((100 : Int) < (l.length : Int)) = false := by simp; omega
  obtain ⟨i0, hi0, hz0, hz1, hz2⟩ := info_parts infoU8
  have H := Lib.hid h
  clear h
  go_enter Try.func3, Try.ntmps3
  go_wp2_with (first
    | (go_at_call 5
       go_must (first
        | ((have hp := PeekSection_long w3 A2 c2 ([0, 128, 0, 0, 0, 0, 0, 0, 0, code] ++ l) code HR3.out h0 h1 (by simp) (by simp; omega) rfl rfl rfl rfl rfl rfl rfl rfl rfl rfl)
           rw [← HN.out] at hp
           refine hp.mono ?_
           rintro e w4 ⟨rfl, hbel4⟩
           have HBEL4 := Lib.hid hbel4
           clear hbel4 hp)
        | ((refine (PeekSection_short _ (some ⟨w.heap.size, 0, none⟩) 4 [0, 83, 112, 69] 112 ((reads_lit w 5 [0, 83, 112, 69] _ rfl).more (by simp)) (by omega) (by omega) (by simp) (by simp) rfl rfl rfl).mono ?_)
           rintro e w1 ⟨rfl, hbel1⟩
           have HBEL1 : Hid (Below w.heap.size w w1) := ((Below.refl _ w).alloc (Nat.le_refl _) _).trans (hbel1.mono (by simp))
           clear hbel1)))
    | (at_builtin
       go_must (first
        | ((refine wpList_append_any _ rfl (.tmp 50) (.tmp 51) 22 rfl w1.heap.size 5 i0 _ 1 1 Try.underlying22 hi0 hz0 hz1 hz2 rfl (by omega) v1 _ _ rfl HO1.out w1.heap.size A l.length c (bs l) rfl (((H.out.below HBEL1.out).more HBEL1.out.size).below HB2.out) (pk_one l) (by simp only [maxLen]; omega) (by omega) HB2.out.size ?_)
           intro v2 w3 hown2 hg2 hat2
           have e1 : 0 + 10 + l.length = ([0, 128, 0, 0, 0, 0, 0, 0, 0, code] ++ l).length := by simp; omega
           have e2 : [] ++ bs [0, 128, 0, 0, 0, 0, 0, 0, 0, code] ++ bs l = bs ([0, 128, 0, 0, 0, 0, 0, 0, 0, code] ++ l) := by simp [bs]
           rw [e1, e2] at hown2
           have HBEL3 : Hid (Below w1.heap.size w1 w3) := HB2.out.grown hg2 HB2.out.size (fun j hj => (HO1.out.lt j hj).1)
           obtain ⟨N, hN⟩ : ∃ N, N = ([0, 128, 0, 0, 0, 0, 0, 0, 0, code] ++ l).length := ⟨_, rfl⟩
           rw [← hN] at hown2
           obtain ⟨A2, c2, rfl, hc2, hm2⟩ := pk_form hown2
           have HR3 : Hid (Reads w3 w3.heap.size 1 A2 ([0, 128, 0, 0, 0, 0, 0, 0, 0, code] ++ l).length (bs ([0, 128, 0, 0, 0, 0, 0, 0, 0, code] ++ l))) := by
             have := Reads.of_own hown2
             rw [hN] at this
             exact this
           have HN := Lib.hid hN
           clear hown2 hg2 hat2 e1 e2 hN hc2)
        | ((refine wpList_append_any _ rfl (.tmp 48) (.tmp 49) 22 rfl w1.heap.size 5 i0 _ 1 1 Try.underlying22 hi0 hz0 hz1 hz2 rfl (by omega) (.slice (some ⟨(w1.heap.size + 1) + 1, 0, none⟩) 0 0) 0 [] rfl ?_ ((w1.heap.size + 1) + 1) (some ⟨(w1.heap.size + 1), 0, none⟩) 10 10 (bs [0, 128, 0, 0, 0, 0, 0, 0, 0, code]) rfl ?_ (pk_one _) (by simp only [maxLen]; omega) (by omega) (by simp; omega) ?_)
           · exact own_new ((w1.alloc (.cells (bs [0, 83, code]).toArray 5)).alloc (.cells (bs [0, 128, 0, 0, 0, 0, 0, 0, 0, code]).toArray 5)) 5 ((w1.heap.size + 1) + 1) w1.heap.size (by simp) (by omega)
           · exact (reads_lit (w1.alloc (.cells (bs [0, 83, code]).toArray 5)) 5 [0, 128, 0, 0, 0, 0, 0, 0, 0, code] ((w1.heap.size + 1)) (by simp)).alloc (by simp) _
           intro v1 w2 hown1 hg1 hat1
           have HB2 : Hid (Below w1.heap.size w1 w2) := Below.grown ((((Below.refl _ w1).alloc (Nat.le_refl _) _).alloc (by simp) _).alloc (by simp; omega) _) hg1 (by simp; omega) (fun j hj => by simp [Value.ownBlock] at hj; simp at *; omega)
           have HO1 := Lib.hid hown1
           clear hown1 hg1 hat1))))
  go_ret
  exact ⟨rfl, (HBEL1.out.trans (HBEL3.out.mono HBEL1.out.size)).trans (HBEL4.out.mono (Nat.le_trans HBEL1.out.size HBEL3.out.size))⟩

theorem FnPeekSection_walk (w : World) (A : Option Addr) (c : Nat) (code : Int) (long : Bool) (l : List Int) (h : Reads w w.heap.size 1 A l.length (bs l)) (h0 : 0 ≤ code) (h1 : code ≤ 255) :
    Calls Try.prog 3 #[.int .u8 code, .bool long, .slice A l.length c] w fun e w' => e = .returned (.bool true) ∧ Below w.heap.size w w' := by
  by_cases hb : l.length < 1 ∨ 100 < l.length
  · exact FnPeekSection_out w A c code long l hb
  · cases long
    · exact FnPeekSection_short w A c code l h h0 h1 (by omega) (by omega)
    · exact FnPeekSection_long w A c code l h h0 h1 (by omega) (by omega)
end Go.Proofs.Ytpkfmcnbodnpeaa
