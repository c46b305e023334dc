/- The laws FnPutUint, FnPutInt, FnPutByte: what is appended is read back. The walks. PRINTED by wip/genk.py. -/
import Derived.Test.YtgjkbldgpfaemaaKj
import Derived.Test.YtgjkbldgpfaemaaKi
namespace Go.Proofs.Ytgjkbldgpfaemaa
open Go.RowKit
set_option linter.unusedVariables false

/-- A call returned a row of bytes of its own. -/
def AppB (w : World) (B : Nat) (l : List Int) (e : Ending) (w' : World) : Prop :=
  ∃ g cs, e = .returned (.slice (some ⟨g, 0, none⟩) l.length cs.length) ∧ Blk w' g 5 cs ∧ l.length ≤ cs.length ∧ cs.length ≤ maxLen ∧ cs.take l.length = bs l ∧ B ≤ g ∧ Below B w w'
theorem appB {w w' : World} {B : Nat} {l : List Int} {e : Ending} (h : App w B (bs l) e w') : AppB w B l e w' := by
  unfold App at h
  rw [bs_length] at h
  exact h
theorem appB2 {w w' : World} {B : Nat} {l m : List Int} {e : Ending} (h : App w B (bs l ++ bs m) e w') : AppB w B (l ++ m) e w' := by
  rw [← bs_append] at h
  exact appB h
theorem bs_reads {w : World} {g : Nat} {cs : List Value} {l : List Int} (hb : Blk w g 5 cs) (hn : l.length ≤ cs.length) (ht : cs.take l.length = bs l) : Reads w w.heap.size 1 (some ⟨g, 0, none⟩) l.length (bs l) := by
  have h := (hb.reads 0 l.length (by omega)).more (show g + 1 ≤ w.heap.size from hb.lt)
  rwa [List.drop_zero, ht] at h
theorem copied_b (w : World) (A : Option Addr) (c : Nat) (l : List Int) (h : Reads w w.heap.size 1 A l.length (bs l)) (hn : l.length ≤ 70368744177664) :
    Calls Try.prog 23 #[.slice A l.length c] w (AppB w w.heap.size l) := by
  have e := copied_calls w A c (bs l) (by rw [bs_length]; exact h) (bs_one l) (by rw [bs_length]; exact hn)
  rw [bs_length] at e
  exact e.mono fun _ _ h => appB h
/-- 'append([]byte{}, l...)'. -/
theorem wpList_append_fresh {w W : World} {A : Option Addr} {l : List Int} {c : Nat} {ops : Array Oper} {rest : List Oper} {o : Oper} {a : Act} {Q : Exit → Act → World → Prop} (hgd : o.guard = none) (s x : Operand)
    (ho : o.op = .call { callee := .builtin .append, args := #[s, x], argTypes := #[22, 22] }) (hs : a.eval s = .slice (some ⟨W.heap.size, 0, none⟩) 0 0) (hx : a.eval x = .slice A l.length c)
    (hw : w = W.alloc (.cells #[] 5)) (hr : Reads W W.heap.size 1 A l.length (bs l)) (hn : l.length ≤ 70368744177664)
    (h : ∀ g cs w', Hid (Blk w' g 5 cs) → l.length ≤ cs.length → cs.length ≤ maxLen → Hid (cs.take l.length = bs l) → W.heap.size ≤ g → Hid (Below W.heap.size W w') → wpList Try.prog ops Q rest (a.put o.dst (.slice (some ⟨g, 0, none⟩) l.length cs.length)) w') :
    wpList Try.prog ops Q (o :: rest) a w := by
  subst hw
  obtain ⟨i0, hi0, hz0, hz1, hz2⟩ := info_parts infoU8
  refine wpList_append_any _ hgd s x _ ho W.heap.size 5 i0 _ 1 1 Try.underlying22 hi0 hz0 hz1 hz2 rfl (by omega) _ 0 [] hs (World.ownsRow_made W _ 0 (Nat.le_refl _) (by simp) (by simp)) W.heap.size A l.length c (bs l) hx (hr.alloc (Nat.le_refl _) _) (bs_one l) (by simp only [maxLen]; omega) (by omega) (by simp) ?_
  intro v1 w1 hown1 hg1 hat1
  have hne : v1 ≠ .slice none 0 0 := by
    rintro rfl
    rcases hat1 with h | h <;> simp [Value.ownBlock] at h
  have hown : w1.ownsRow W.heap.size 5 1 v1 l.length (bs l) := by simpa using hown1
  obtain ⟨g, cs, hv, hk, hB, hn, hm, ht⟩ := own_blk hown (.inr hne)
  rw [hv]
  refine h g cs w1 hk hn hm ht hB (((Below.refl _ _).alloc (Nat.le_refl _) _).grown hg1 (by simp) (fun k hk => ?_))
  simp [Value.ownBlock] at hk
  omega

theorem few_yes (w : World) (A : Option Addr) (n c : Nat) (h : n ≤ 200) : Calls Try.prog 12 #[.slice A n c] w fun e w' => e = .returned (.bool true) ∧ w = w' := by
  have hd : decide ((n : Int) ≤ 200) = true := by simp; omega
  go_enter Try.func12, Try.ntmps12
  go_wp2
  go_ret
  exact ⟨by simp, rfl⟩
theorem few_no (w : World) (A : Option Addr) (n c : Nat) (h : ¬ n ≤ 200) : Calls Try.prog 12 #[.slice A n c] w fun e w' => e = .returned (.bool false) ∧ w = w' := by
  have hd : decide ((n : Int) ≤ 200) = false := by simp; omega
  go_enter Try.func12, Try.ntmps12
  go_wp2
  go_ret
  exact ⟨by simp, rfl⟩

theorem encU_byte (u : Int) (h : u ≤ 255) : (encU u).length ≤ 2 := by
  unfold encU
  split
  · simp
  · simp [be_length]
theorem sx0 (u : Int) (h0 : -9223372036854775808 ≤ u) (h1 : u < 0) : IntKind.u64.wrap u = sx u 0 := by
  unfold sx
  rw [IntKind.wrap_u64]
  omega

/-- 'appended', the length and the value written out. -/
theorem appended_n (w : World) (B c0 c1 N : Nat) (A0 A1 : Option Addr) (lb r : List Int) (m : Int) (k u x k' u' x' : Int) (s s' : ByteArray) (hN : N = (lb ++ r).length) (h0 : Reads w B 1 A0 lb.length (bs lb)) (h1 : Reads w B 1 A1 (lb ++ r).length (bs (lb ++ r))) (hB : B ≤ w.heap.size)
    (hc0 : lb.length ≤ c0) (hc1 : (lb ++ r).length ≤ c1) (hm1 : c1 ≤ maxLen) (hm : m < 0 ∨ (r.length : Int) ≤ m)
    (htake : ∀ (W : World) (A : Option Addr) (c : Nat), Reads W B 1 A r.length (bs r) → B ≤ W.heap.size → r.length ≤ c → c ≤ maxLen → Calls Try.prog 26 #[.slice A r.length c, .int .i64 1] W (Coded W B (pk k' u' s' x') []))
    (hsame : ∀ W : World, Calls Try.prog 27 #[pk k u s x, pk k' u' s' x'] W fun e w' => e = .returned (.bool true) ∧ Below W.heap.size W w') :
    Calls Try.prog 14 #[.slice A0 lb.length c0, .slice A1 N c1, .agg #[.int .i64 k, .int .u64 u, .string s, .int .i64 x, .slice none 0 0], .int .i64 m] w fun e w' => e = .returned (.bool true) ∧ Below w.heap.size w w' := by
  subst hN
  exact appended_calls w B c0 c1 A0 A1 lb r m k u x k' u' x' s s' h0 h1 hB hc0 hc1 hm1 hm htake hsame


theorem AppendUint64_b (w0 w : World) (B g : Nat) (u : Int) (cs : List Value) (l : List Int) (hw0 : Below B w0 w) (hB : B ≤ g) (hBw : B ≤ w.heap.size) (hb : Blk w g 5 cs) (hx : cs.take l.length = bs l) (hm : cs.length ≤ maxLen) (hs : l.length ≤ 1099511000000) (h0 : 0 ≤ u) (hu : u ≤ 18446744073709551615) :
    Calls Try.prog 29 #[.slice (some ⟨g, 0, none⟩) l.length cs.length, .int .u64 u] w (AppB w0 B (l ++ encU u)) := by
  have e := AppendUint64_calls w0 w B g u cs (bs l) hw0 hB hBw hb (by rw [bs_length]; exact hx) hm (by rw [bs_length]; exact hs) (bs_one l) h0 hu
  rw [bs_length] at e
  exact e.mono fun _ _ h => appB2 h

theorem AppendInt64_b (w0 w : World) (B g : Nat) (u : Int) (cs : List Value) (l : List Int) (hw0 : Below B w0 w) (hB : B ≤ g) (hBw : B ≤ w.heap.size) (hb : Blk w g 5 cs) (hx : cs.take l.length = bs l) (hm : cs.length ≤ maxLen) (hs : l.length ≤ 1099511000000) (h0 : -9223372036854775808 ≤ u) (hu : u ≤ 9223372036854775807) :
    Calls Try.prog 31 #[.slice (some ⟨g, 0, none⟩) l.length cs.length, .int .i64 u] w (AppB w0 B (l ++ encI u)) := by
  have e := AppendInt64_calls w0 w B g u cs (bs l) hw0 hB hBw hb (by rw [bs_length]; exact hx) hm (by rw [bs_length]; exact hs) (bs_one l) h0 hu
  rw [bs_length] at e
  exact e.mono fun _ _ h => appB2 h

theorem AppendUint8_b (w0 w : World) (B g : Nat) (u : Int) (cs : List Value) (l : List Int) (hw0 : Below B w0 w) (hB : B ≤ g) (hBw : B ≤ w.heap.size) (hb : Blk w g 5 cs) (hx : cs.take l.length = bs l) (hm : cs.length ≤ maxLen) (hs : l.length ≤ 1099511000000) (h0 : 0 ≤ u) (hu : u ≤ 255) :
    Calls Try.prog 47 #[.slice (some ⟨g, 0, none⟩) l.length cs.length, .int .u8 u] w (AppB w0 B (l ++ encU u)) := by
  have HB := Lib.hid hb
  have HX := Lib.hid hx
  have HW := Lib.hid hw0
  clear hb hx hw0
  go_enter Try.func47, Try.ntmps47
  go_wp2_with (
    (go_at_call 29)
    go_must (
      (refine (AppendUint64_b w0 w B g u cs l HW.out hB hBw HB.out HX.out hm hs h0 (by omega)).mono ?_)
      rintro e w2 ⟨g2, cs2, rfl, hb2, hn2, hm2, ht2, hB2, hbel2⟩
      have HB2 := Lib.hid hb2
      have HT2 := Lib.hid ht2
      have HBEL2 := Lib.hid hbel2
      have hn2' := Lib.hid hn2
      clear hb2 ht2 hbel2 hn2))
  go_ret
  exact ⟨g2, cs2, by first | rfl | (rw [List.length_append]; rfl), HB2.out, hn2'.out, hm2, HT2.out, hB2, HBEL2.out⟩

theorem AppendByte_b (w0 w : World) (B g : Nat) (u : Int) (cs : List Value) (l : List Int) (hw0 : Below B w0 w) (hB : B ≤ g) (hBw : B ≤ w.heap.size) (hb : Blk w g 5 cs) (hx : cs.take l.length = bs l) (hm : cs.length ≤ maxLen) (hs : l.length ≤ 1099511000000) (h0 : 0 ≤ u) (hu : u ≤ 255) :
    Calls Try.prog 30 #[.slice (some ⟨g, 0, none⟩) l.length cs.length, .int .u8 u] w (AppB w0 B (l ++ encU u)) := by
  have HB := Lib.hid hb
  have HX := Lib.hid hx
  have HW := Lib.hid hw0
  clear hb hx hw0
  go_enter Try.func30, Try.ntmps30
  go_wp2_with (
    (go_at_call 47)
    go_must (
      (refine (AppendUint8_b w0 w B g u cs l HW.out hB hBw HB.out HX.out hm hs h0 (by omega)).mono ?_)
      rintro e w2 ⟨g2, cs2, rfl, hb2, hn2, hm2, ht2, hB2, hbel2⟩
      have HB2 := Lib.hid hb2
      have HT2 := Lib.hid ht2
      have HBEL2 := Lib.hid hbel2
      have hn2' := Lib.hid hn2
      clear hb2 ht2 hbel2 hn2))
  go_ret
  exact ⟨g2, cs2, by first | rfl | (rw [List.length_append]; rfl), HB2.out, hn2'.out, hm2, HT2.out, hB2, HBEL2.out⟩

set_option maxHeartbeats 1000000 in
theorem PutUint_calls (w : World) (A : Option Addr) (c : Nat) (l : List Int) (u : Int) (h : Reads w w.heap.size 1 A l.length (bs l)) (hn : l.length ≤ 1099510000000) (h0 : 0 ≤ u) (hu : u ≤ 18446744073709551615) :
    Calls Try.prog 19 #[.slice A l.length c, .int .u64 u] w (AppB w w.heap.size (l ++ encU u)) := by
  have H := Lib.hid h
  clear h
  go_enter Try.func19, Try.ntmps19
  go_wp2_with (first
    | (go_at_call 23
       go_must (
         (refine (copied_b _ A c l H.out (by omega)).mono ?_)
         rintro e w1 ⟨g, cs, rfl, hb, hn1, hm1, ht1, hB1, hbel⟩
         have HB := Lib.hid hb
         have HT := Lib.hid ht1
         have HBEL := Lib.hid hbel
         have hsz := hbel.size
         clear hb ht1 hbel))
    | (go_at_call 29
       go_must (
         (refine (AppendUint64_b w w1 w.heap.size g u cs l HBEL.out hB1 hsz HB.out HT.out hm1 (by omega) h0 hu).mono ?_)
         rintro e w2 ⟨g2, cs2, rfl, hb2, hn2, hm2, ht2, hB2, hbel2⟩
         have HB2 := Lib.hid hb2
         have HT2 := Lib.hid ht2
         have HBEL2 := Lib.hid hbel2
         have hn2' := Lib.hid hn2
         clear hb2 ht2 hbel2 hn2)))
  go_ret
  exact ⟨g2, cs2, by first | rfl | (rw [List.length_append]; rfl), HB2.out, hn2'.out, hm2, HT2.out, hB2, HBEL2.out⟩
theorem PutUint_awake (w : World) : Calls Try.prog 19 #[.slice none 0 0, .int .u64 5] w (AppB w w.heap.size [5]) := by
  have e := PutUint_calls w none 0 [] 5 Reads.none_ (by simp) (by omega) (by omega)
  exact e

set_option maxHeartbeats 1000000 in
theorem PutInt_calls (w : World) (A : Option Addr) (c : Nat) (l : List Int) (u : Int) (h : Reads w w.heap.size 1 A l.length (bs l)) (hn : l.length ≤ 1099510000000) (h0 : -9223372036854775808 ≤ u) (hu : u ≤ 9223372036854775807) :
    Calls Try.prog 21 #[.slice A l.length c, .int .i64 u] w (AppB w w.heap.size (l ++ encI u)) := by
  have H := Lib.hid h
  clear h
  go_enter Try.func21, Try.ntmps21
  go_wp2_with (first
    | (go_at_call 23
       go_must (
         (refine (copied_b _ A c l H.out (by omega)).mono ?_)
         rintro e w1 ⟨g, cs, rfl, hb, hn1, hm1, ht1, hB1, hbel⟩
         have HB := Lib.hid hb
         have HT := Lib.hid ht1
         have HBEL := Lib.hid hbel
         have hsz := hbel.size
         clear hb ht1 hbel))
    | (go_at_call 31
       go_must (
         (refine (AppendInt64_b w w1 w.heap.size g u cs l HBEL.out hB1 hsz HB.out HT.out hm1 (by omega) h0 hu).mono ?_)
         rintro e w2 ⟨g2, cs2, rfl, hb2, hn2, hm2, ht2, hB2, hbel2⟩
         have HB2 := Lib.hid hb2
         have HT2 := Lib.hid ht2
         have HBEL2 := Lib.hid hbel2
         have hn2' := Lib.hid hn2
         clear hb2 ht2 hbel2 hn2)))
  go_ret
  exact ⟨g2, cs2, by first | rfl | (rw [List.length_append]; rfl), HB2.out, hn2'.out, hm2, HT2.out, hB2, HBEL2.out⟩
theorem PutInt_awake (w : World) : Calls Try.prog 21 #[.slice none 0 0, .int .i64 5] w (AppB w w.heap.size [5]) := by
  have e := PutInt_calls w none 0 [] 5 Reads.none_ (by simp) (by omega) (by omega)
  exact e

set_option maxHeartbeats 1000000 in
theorem PutByte_calls (w : World) (A : Option Addr) (c : Nat) (l : List Int) (u : Int) (h : Reads w w.heap.size 1 A l.length (bs l)) (hn : l.length ≤ 1099510000000) (h0 : 0 ≤ u) (hu : u ≤ 255) :
    Calls Try.prog 20 #[.slice A l.length c, .int .u8 u] w (AppB w w.heap.size (l ++ encU u)) := by
  have H := Lib.hid h
  clear h
  go_enter Try.func20, Try.ntmps20
  go_wp2_with (first
    | (go_at_call 23
       go_must (
         (refine (copied_b _ A c l H.out (by omega)).mono ?_)
         rintro e w1 ⟨g, cs, rfl, hb, hn1, hm1, ht1, hB1, hbel⟩
         have HB := Lib.hid hb
         have HT := Lib.hid ht1
         have HBEL := Lib.hid hbel
         have hsz := hbel.size
         clear hb ht1 hbel))
    | (go_at_call 30
       go_must (
         (refine (AppendByte_b w w1 w.heap.size g u cs l HBEL.out hB1 hsz HB.out HT.out hm1 (by omega) h0 hu).mono ?_)
         rintro e w2 ⟨g2, cs2, rfl, hb2, hn2, hm2, ht2, hB2, hbel2⟩
         have HB2 := Lib.hid hb2
         have HT2 := Lib.hid ht2
         have HBEL2 := Lib.hid hbel2
         have hn2' := Lib.hid hn2
         clear hb2 ht2 hbel2 hn2)))
  go_ret
  exact ⟨g2, cs2, by first | rfl | (rw [List.length_append]; rfl), HB2.out, hn2'.out, hm2, HT2.out, hB2, HBEL2.out⟩
theorem PutByte_awake (w : World) : Calls Try.prog 20 #[.slice none 0 0, .int .u8 5] w (AppB w w.heap.size [5]) := by
  have e := PutByte_calls w none 0 [] 5 Reads.none_ (by simp) (by omega) (by omega)
  exact e

set_option maxHeartbeats 2000000 in
set_option maxRecDepth 100000 in
theorem FnPutUint_walk (w : World) (A : Option Addr) (c : Nat) (l : List Int) (u : Int) (h : Reads w w.heap.size 1 A l.length (bs l)) (hc : l.length ≤ c) (hn : l.length ≤ 140737488351232) (h0 : 0 ≤ u) (hu : u ≤ 18446744073709551615) :
    Calls Try.prog 7 #[.slice A l.length c, .int .u64 u] w fun e w' => e = .returned (.bool true) ∧ Below w.heap.size w w' := by
  have H := Lib.hid h
  clear h
  by_cases hz : 2147483647 < l.length
  · have hd : decide ((2147483647 : Int) < (l.length : Int)) = true := by simp; omega
    go_enter Try.func7, Try.ntmps7
    go_wp2
    go_ret
    exact ⟨rfl, Below.refl _ _⟩
  · have hd : decide ((2147483647 : Int) < (l.length : Int)) = false := by simp; omega
    by_cases hf : l.length ≤ 200
    · have hlen := encU_length u
      obtain ⟨hlen1, hlen2⟩ := hlen
      go_enter Try.func7, Try.ntmps7
      go_wp2_with (first
        | (have _t := H
           go_at_call 19
           go_must (
             (refine (PutUint_awake _).mono ?_)
             rintro e w1 ⟨g1, cs1, rfl, hb1, hn1, hm1, ht1, hB1, hbel1⟩
             have HBEL1 := Lib.hid hbel1
             have H1 : Hid (Reads w1 w1.heap.size 1 A l.length (bs l)) := (H.out.below hbel1).more hbel1.size
             clear H hb1 ht1 hbel1))
        | (go_at_call 12
           go_must (
             (refine (few_yes _ _ _ _ hf).mono ?_)
             rintro e w' ⟨rfl, rfl⟩))
        | (at_builtin
           go_must (
             (refine wpList_append_fresh (W := w1) rfl _ _ rfl rfl rfl rfl H1.out (by omega) ?_)
             intro g2 cs2 w2 HB2 hn2 hm2 HT2 hB2 HBEL2))
        | (have _t := HB2
           go_at_call 19
           go_must (
             (refine (PutUint_calls _ _ _ l u (bs_reads HB2.out hn2 HT2.out) (by omega) (by omega) (by omega)).mono ?_)
             rintro e w3 ⟨g3, cs3, rfl, hb3, hn3, hm3, ht3, hB3, hbel3⟩
             have HB3 := Lib.hid hb3
             have HT3 := Lib.hid ht3
             have HN3 := Lib.hid hn3
             have HBEL3 := Lib.hid hbel3
             have H3 : Hid (Reads w3 w3.heap.size 1 A l.length (bs l)) := (((H1.out.below HBEL2.out).more HBEL2.out.size).below hbel3).more hbel3.size
             clear HB2 hb3 ht3 hbel3 hn3))
        | (go_at_call 14
           go_must (
             (refine (appended_n w3 w3.heap.size c cs3.length _ A (some ⟨g3, 0, none⟩) l (encU u) 9 3 u 0 3 u 0 ⟨#[]⟩ ⟨#[]⟩ (by simp) H3.out (bs_reads HB3.out HN3.out HT3.out) (Nat.le_refl _) hc HN3.out hm3 (by omega) (fun W A c => take_encU u h0 hu W w3.heap.size c A) (fun W => SamePack_plain W 3 u 0 ⟨#[]⟩ (by decide))).mono ?_)
             rintro e w4 ⟨rfl, hbel4⟩
             have HBEL4 := Lib.hid hbel4
             clear hbel4)))
      go_ret
      have b1 := HBEL1.out
      have b2 := HBEL2.out
      have b3 := HBEL3.out
      have b4 := HBEL4.out
      have z1 := b1.size
      have z2 := b2.size
      have z3 := b3.size
      exact ⟨rfl, ((b1.trans (b2.mono z1)).trans (b3.mono (by omega))).trans (b4.mono (by omega))⟩
    · have hfd : ¬ l.length ≤ 200 := hf
      go_enter Try.func7, Try.ntmps7
      go_wp2_with (first
        | (go_at_call 19
           go_must (
             (refine (PutUint_awake _).mono ?_)
             rintro e w1 ⟨g1, cs1, rfl, hb1, hn1, hm1, ht1, hB1, hbel1⟩
             have HBEL1 := Lib.hid hbel1
             clear hb1 ht1 hbel1))
        | (go_at_call 12
           go_must (
             (refine (few_no _ _ _ _ hfd).mono ?_)
             rintro e w' ⟨rfl, rfl⟩)))
      go_ret
      exact ⟨rfl, HBEL1.out⟩

set_option maxHeartbeats 2000000 in
set_option maxRecDepth 100000 in
theorem FnPutByte_walk (w : World) (A : Option Addr) (c : Nat) (l : List Int) (u : Int) (h : Reads w w.heap.size 1 A l.length (bs l)) (hc : l.length ≤ c) (hn : l.length ≤ 140737488351232) (h0 : 0 ≤ u) (hu : u ≤ 255) :
    Calls Try.prog 8 #[.slice A l.length c, .int .u8 u] w fun e w' => e = .returned (.bool true) ∧ Below w.heap.size w w' := by
  have H := Lib.hid h
  clear h
  have hlen8 : (encU u).length ≤ 2 := encU_byte u hu
  by_cases hz : 2147483647 < l.length
  · have hd : decide ((2147483647 : Int) < (l.length : Int)) = true := by simp; omega
    go_enter Try.func8, Try.ntmps8
    go_wp2
    go_ret
    exact ⟨rfl, Below.refl _ _⟩
  · have hd : decide ((2147483647 : Int) < (l.length : Int)) = false := by simp; omega
    by_cases hf : l.length ≤ 200
    · have hlen := encU_length u
      obtain ⟨hlen1, hlen2⟩ := hlen
      go_enter Try.func8, Try.ntmps8
      go_wp2_with (first
        | (have _t := H
           go_at_call 20
           go_must (
             (refine (PutByte_awake _).mono ?_)
             rintro e w1 ⟨g1, cs1, rfl, hb1, hn1, hm1, ht1, hB1, hbel1⟩
             have HBEL1 := Lib.hid hbel1
             have H1 : Hid (Reads w1 w1.heap.size 1 A l.length (bs l)) := (H.out.below hbel1).more hbel1.size
             clear H hb1 ht1 hbel1))
        | (go_at_call 12
           go_must (
             (refine (few_yes _ _ _ _ hf).mono ?_)
             rintro e w' ⟨rfl, rfl⟩))
        | (at_builtin
           go_must (
             (refine wpList_append_fresh (W := w1) rfl _ _ rfl rfl rfl rfl H1.out (by omega) ?_)
             intro g2 cs2 w2 HB2 hn2 hm2 HT2 hB2 HBEL2))
        | (have _t := HB2
           go_at_call 20
           go_must (
             (refine (PutByte_calls _ _ _ l u (bs_reads HB2.out hn2 HT2.out) (by omega) (by omega) (by omega)).mono ?_)
             rintro e w3 ⟨g3, cs3, rfl, hb3, hn3, hm3, ht3, hB3, hbel3⟩
             have HB3 := Lib.hid hb3
             have HT3 := Lib.hid ht3
             have HN3 := Lib.hid hn3
             have HBEL3 := Lib.hid hbel3
             have H3 : Hid (Reads w3 w3.heap.size 1 A l.length (bs l)) := (((H1.out.below HBEL2.out).more HBEL2.out.size).below hbel3).more hbel3.size
             clear HB2 hb3 ht3 hbel3 hn3))
        | (go_at_call 14
           go_must (
             (refine (appended_n w3 w3.heap.size c cs3.length _ A (some ⟨g3, 0, none⟩) l (encU u) 2 3 u 0 3 u 0 ⟨#[]⟩ ⟨#[]⟩ (by simp) H3.out (bs_reads HB3.out HN3.out HT3.out) (Nat.le_refl _) hc HN3.out hm3 (by omega) (fun W A c => take_encU u h0 (by omega) W w3.heap.size c A) (fun W => SamePack_plain W 3 u 0 ⟨#[]⟩ (by decide))).mono ?_)
             rintro e w4 ⟨rfl, hbel4⟩
             have HBEL4 := Lib.hid hbel4
             clear hbel4)))
      go_ret
      have b1 := HBEL1.out
      have b2 := HBEL2.out
      have b3 := HBEL3.out
      have b4 := HBEL4.out
      have z1 := b1.size
      have z2 := b2.size
      have z3 := b3.size
      exact ⟨rfl, ((b1.trans (b2.mono z1)).trans (b3.mono (by omega))).trans (b4.mono (by omega))⟩
    · have hfd : ¬ l.length ≤ 200 := hf
      go_enter Try.func8, Try.ntmps8
      go_wp2_with (first
        | (go_at_call 20
           go_must (
             (refine (PutByte_awake _).mono ?_)
             rintro e w1 ⟨g1, cs1, rfl, hb1, hn1, hm1, ht1, hB1, hbel1⟩
             have HBEL1 := Lib.hid hbel1
             clear hb1 ht1 hbel1))
        | (go_at_call 12
           go_must (
             (refine (few_no _ _ _ _ hfd).mono ?_)
             rintro e w' ⟨rfl, rfl⟩)))
      go_ret
      exact ⟨rfl, HBEL1.out⟩

set_option maxHeartbeats 2000000 in
set_option maxRecDepth 100000 in
theorem FnPutInt_pos (w : World) (A : Option Addr) (c : Nat) (l : List Int) (u : Int) (h : Reads w w.heap.size 1 A l.length (bs l)) (hc : l.length ≤ c) (hn : l.length ≤ 140737488351232) (h0 : 0 ≤ u) (hu : u ≤ 9223372036854775807) :
    Calls Try.prog 9 #[.slice A l.length c, .int .i64 u] w fun e w' => e = .returned (.bool true) ∧ Below w.heap.size w w' := by
  have H := Lib.hid h
  clear h
  by_cases hz : 2147483647 < l.length
  · have hd : decide ((2147483647 : Int) < (l.length : Int)) = true := by simp; omega
    go_enter Try.func9, Try.ntmps9
    go_wp2
    go_ret
    exact ⟨rfl, Below.refl _ _⟩
  · have hd : decide ((2147483647 : Int) < (l.length : Int)) = false := by simp; omega
    by_cases hf : l.length ≤ 200
    · have hlen := encI_length u
      obtain ⟨hlen1, hlen2⟩ := hlen
      go_enter Try.func9, Try.ntmps9
      go_wp2_with (first
        | (have _t := H
           go_at_call 21
           go_must (
             (refine (PutInt_awake _).mono ?_)
             rintro e w1 ⟨g1, cs1, rfl, hb1, hn1, hm1, ht1, hB1, hbel1⟩
             have HBEL1 := Lib.hid hbel1
             have H1 : Hid (Reads w1 w1.heap.size 1 A l.length (bs l)) := (H.out.below hbel1).more hbel1.size
             clear H hb1 ht1 hbel1))
        | (go_at_call 12
           go_must (
             (refine (few_yes _ _ _ _ hf).mono ?_)
             rintro e w' ⟨rfl, rfl⟩))
        | (at_builtin
           go_must (
             (refine wpList_append_fresh (W := w1) rfl _ _ rfl rfl rfl rfl H1.out (by omega) ?_)
             intro g2 cs2 w2 HB2 hn2 hm2 HT2 hB2 HBEL2))
        | (have _t := HB2
           go_at_call 21
           go_must (
             (refine (PutInt_calls _ _ _ l u (bs_reads HB2.out hn2 HT2.out) (by omega) (by omega) (by omega)).mono ?_)
             rintro e w3 ⟨g3, cs3, rfl, hb3, hn3, hm3, ht3, hB3, hbel3⟩
             have HB3 := Lib.hid hb3
             have HT3 := Lib.hid ht3
             have HN3 := Lib.hid hn3
             have HBEL3 := Lib.hid hbel3
             have H3 : Hid (Reads w3 w3.heap.size 1 A l.length (bs l)) := (((H1.out.below HBEL2.out).more HBEL2.out.size).below hbel3).more hbel3.size
             clear HB2 hb3 ht3 hbel3 hn3))
        | (go_at_call 14
           go_must (
             (refine (appended_n w3 w3.heap.size c cs3.length _ A (some ⟨g3, 0, none⟩) l (encI u) 9 2 u 0 3 u 0 ⟨#[]⟩ ⟨#[]⟩ (by simp) H3.out (bs_reads HB3.out HN3.out HT3.out) (Nat.le_refl _) hc HN3.out hm3 (by omega) (fun W A c => take_encI_pos u h0 hu W w3.heap.size c A) (fun W => SamePack_pos W u 0 ⟨#[]⟩ h0 (by omega))).mono ?_)
             rintro e w4 ⟨rfl, hbel4⟩
             have HBEL4 := Lib.hid hbel4
             clear hbel4)))
      go_ret
      have b1 := HBEL1.out
      have b2 := HBEL2.out
      have b3 := HBEL3.out
      have b4 := HBEL4.out
      have z1 := b1.size
      have z2 := b2.size
      have z3 := b3.size
      exact ⟨rfl, ((b1.trans (b2.mono z1)).trans (b3.mono (by omega))).trans (b4.mono (by omega))⟩
    · have hfd : ¬ l.length ≤ 200 := hf
      go_enter Try.func9, Try.ntmps9
      go_wp2_with (first
        | (go_at_call 21
           go_must (
             (refine (PutInt_awake _).mono ?_)
             rintro e w1 ⟨g1, cs1, rfl, hb1, hn1, hm1, ht1, hB1, hbel1⟩
             have HBEL1 := Lib.hid hbel1
             clear hb1 ht1 hbel1))
        | (go_at_call 12
           go_must (
             (refine (few_no _ _ _ _ hfd).mono ?_)
             rintro e w' ⟨rfl, rfl⟩)))
      go_ret
      exact ⟨rfl, HBEL1.out⟩

set_option maxHeartbeats 2000000 in
set_option maxRecDepth 100000 in
theorem FnPutInt_neg (w : World) (A : Option Addr) (c : Nat) (l : List Int) (u : Int) (h : Reads w w.heap.size 1 A l.length (bs l)) (hc : l.length ≤ c) (hn : l.length ≤ 140737488351232) (h0 : -9223372036854775808 ≤ u) (hu : u ≤ -1) :
    Calls Try.prog 9 #[.slice A l.length c, .int .i64 u] w fun e w' => e = .returned (.bool true) ∧ Below w.heap.size w w' := by
  have H := Lib.hid h
  clear h
  have hwu : IntKind.u64.wrap u = sx u 0 := sx0 u h0 (by omega)
  by_cases hz : 2147483647 < l.length
  · have hd : decide ((2147483647 : Int) < (l.length : Int)) = true := by simp; omega
    go_enter Try.func9, Try.ntmps9
    go_wp2
    go_ret
    exact ⟨rfl, Below.refl _ _⟩
  · have hd : decide ((2147483647 : Int) < (l.length : Int)) = false := by simp; omega
    by_cases hf : l.length ≤ 200
    · have hlen := encI_length u
      obtain ⟨hlen1, hlen2⟩ := hlen
      go_enter Try.func9, Try.ntmps9
      go_wp2_with (first
        | (have _t := H
           go_at_call 21
           go_must (
             (refine (PutInt_awake _).mono ?_)
             rintro e w1 ⟨g1, cs1, rfl, hb1, hn1, hm1, ht1, hB1, hbel1⟩
             have HBEL1 := Lib.hid hbel1
             have H1 : Hid (Reads w1 w1.heap.size 1 A l.length (bs l)) := (H.out.below hbel1).more hbel1.size
             clear H hb1 ht1 hbel1))
        | (go_at_call 12
           go_must (
             (refine (few_yes _ _ _ _ hf).mono ?_)
             rintro e w' ⟨rfl, rfl⟩))
        | (at_builtin
           go_must (
             (refine wpList_append_fresh (W := w1) rfl _ _ rfl rfl rfl rfl H1.out (by omega) ?_)
             intro g2 cs2 w2 HB2 hn2 hm2 HT2 hB2 HBEL2))
        | (have _t := HB2
           go_at_call 21
           go_must (
             (refine (PutInt_calls _ _ _ l u (bs_reads HB2.out hn2 HT2.out) (by omega) (by omega) (by omega)).mono ?_)
             rintro e w3 ⟨g3, cs3, rfl, hb3, hn3, hm3, ht3, hB3, hbel3⟩
             have HB3 := Lib.hid hb3
             have HT3 := Lib.hid ht3
             have HN3 := Lib.hid hn3
             have HBEL3 := Lib.hid hbel3
             have H3 : Hid (Reads w3 w3.heap.size 1 A l.length (bs l)) := (((H1.out.below HBEL2.out).more HBEL2.out.size).below hbel3).more hbel3.size
             clear HB2 hb3 ht3 hbel3 hn3))
        | (go_at_call 14
           go_must (
             (refine (appended_n w3 w3.heap.size c cs3.length _ A (some ⟨g3, 0, none⟩) l (encI u) 9 2 (u + 18446744073709551616) 0 2 (u + 18446744073709551616) 0 ⟨#[]⟩ ⟨#[]⟩ (by simp) H3.out (bs_reads HB3.out HN3.out HT3.out) (Nat.le_refl _) hc HN3.out hm3 (by omega) (fun W A c => take_encI_neg u h0 (by omega) W w3.heap.size c A) (fun W => SamePack_neg W (u + 18446744073709551616) 0 ⟨#[]⟩ (by omega) (by omega))).mono ?_)
             rintro e w4 ⟨rfl, hbel4⟩
             have HBEL4 := Lib.hid hbel4
             clear hbel4)))
      go_ret
      have b1 := HBEL1.out
      have b2 := HBEL2.out
      have b3 := HBEL3.out
      have b4 := HBEL4.out
      have z1 := b1.size
      have z2 := b2.size
      have z3 := b3.size
      exact ⟨rfl, ((b1.trans (b2.mono z1)).trans (b3.mono (by omega))).trans (b4.mono (by omega))⟩
    · have hfd : ¬ l.length ≤ 200 := hf
      go_enter Try.func9, Try.ntmps9
      go_wp2_with (first
        | (go_at_call 21
           go_must (
             (refine (PutInt_awake _).mono ?_)
             rintro e w1 ⟨g1, cs1, rfl, hb1, hn1, hm1, ht1, hB1, hbel1⟩
             have HBEL1 := Lib.hid hbel1
             clear hb1 ht1 hbel1))
        | (go_at_call 12
           go_must (
             (refine (few_no _ _ _ _ hfd).mono ?_)
             rintro e w' ⟨rfl, rfl⟩)))
      go_ret
      exact ⟨rfl, HBEL1.out⟩

end Go.Proofs.Ytgjkbldgpfaemaa
