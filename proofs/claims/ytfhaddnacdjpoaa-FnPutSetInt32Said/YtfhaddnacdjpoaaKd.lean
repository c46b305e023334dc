/- Contracts of copied and of msgp's appending functions: what they return begins with what was there, and ends with what was appended. -/
import Derived.Test.YtfhaddnacdjpoaaKc
import Derived.Test.YtfhaddnacdjpoaaBit
namespace Go.Proofs.Ytfhaddnacdjpoaa
open Go.RowKit
set_option linter.unusedVariables false

/-- A call returned a row of its own, from block B on, that holds xs; below block B nothing has turned. -/
def App (w : World) (B : Nat) (xs : List Value) (e : Ending) (w' : World) : Prop :=
  ∃ g cs, e = .returned (.slice (some ⟨g, 0, none⟩) xs.length cs.length) ∧ Blk w' g 5 cs ∧ xs.length ≤ cs.length ∧ cs.length ≤ maxLen ∧ cs.take xs.length = xs ∧ B ≤ g ∧ Below B w w'

theorem app_own {w w' : World} {B : Nat} {v : Value} {xs : List Value} (h : w'.ownsRow B 5 1 v xs.length xs) (h0 : v ≠ .slice none 0 0) (hb : Below B w w') : App w B xs (.returned v) w' := by
  obtain ⟨g, cs, rfl, hk, hB, hn, hm, ht⟩ := own_blk h (.inr h0)
  exact ⟨g, cs, rfl, hk, hn, hm, ht, hB, hb⟩

set_option maxHeartbeats 1000000 in
theorem copied_calls (w : World) (A : Option Addr) (c : Nat) (xs : List Value) (h : Reads w w.heap.size 1 A xs.length xs) (h1 : ∀ u ∈ xs, u.oneCell' = true) (hn : xs.length ≤ 70368744177664) :
    Calls Try.prog 12 #[.slice A xs.length c] w (App w w.heap.size xs) := by
  obtain ⟨i0, hi0, hz0, hz1, hz2⟩ := info_parts infoU8
  have H := Lib.hid h
  have H1 := Lib.hid h1
  clear h h1
  go_enter Try.func12, Try.ntmps12
  go_wp2_with (first
    | (at_builtin
       go_must (
         (refine wpList_append_any _ rfl (.tmp 3) (.tmp 4) 22 rfl w.heap.size 5 i0 _ 1 1 Try.underlying22 hi0 hz0 hz1 hz2 rfl (by omega) (.slice (some ⟨w.heap.size, 0, none⟩) 0 0) 0 [] rfl ?_ w.heap.size A xs.length c xs rfl ?_ H1.out (by simp only [maxLen]; omega) (by omega) (by simp) ?_)
         · exact World.ownsRow_made w _ 0 (Nat.le_refl _) (by simp) (by simp)
         · exact H.out.alloc (Nat.le_refl _) _
         intro v1 w1 hown1 hg1 hat1)))
  go_ret
  have hne : v1 ≠ .slice none 0 0 := by
    rintro rfl
    rcases hat1 with h | h <;> simp [Value.ownBlock] at h
  have hown : w1.ownsRow w.heap.size 5 1 v1 xs.length xs := by simpa using hown1
  refine app_own hown hne (((Below.refl _ _).alloc (Nat.le_refl _) _).grown hg1 (by simp) (fun k hk => ?_))
  simp [Value.ownBlock] at hk
  omega
/-- Behind 'ensure' and a write into its last cells: what there was, and what was written. -/
theorem app_wrote {w0 w w1 w2 : World} {B g g' : Nat} {cs' xs news : List Value} (hw0 : Below B w0 w) (hB : B ≤ g) (hBw : B ≤ w.heap.size) (hb : Below w.heap.size w w1) (hk : g' = g ∨ g' = w.heap.size) (hn : xs.length + news.length ≤ cs'.length) (hm : cs'.length ≤ maxLen) (ht : cs'.take xs.length = xs)
    (hblk : Blk w2 g' 5 (splice cs' xs.length news)) (hg : w1.grownBy w2 (some g')) :
    App w0 B (xs ++ news) (.returned (.slice (some ⟨g', 0, none⟩) (xs.length + news.length) cs'.length)) w2 := by
  have hl : (splice cs' xs.length news).length = cs'.length := length_splice _ _ _ hn
  have hg' : B ≤ g' := by rcases hk with rfl | rfl <;> omega
  refine ⟨g', splice cs' xs.length news, by rw [hl, List.length_append], hblk, by rw [hl, List.length_append]; omega, by rw [hl]; exact hm, ?_, hg', ?_⟩
  · unfold splice
    rw [ht, ← List.append_assoc, List.take_left' (by simp)]
  · exact (hw0.trans (hb.mono hBw)).grown hg (by have := hb.size; omega) (fun k hk' => by injection hk' with e; omega)

def encU (u : Int) : List Int :=
  if u ≤ 127 then [u] else if u ≤ 255 then 204 :: be u 1 else if u ≤ 65535 then 205 :: be u 2 else if u ≤ 4294967295 then 206 :: be u 4 else 207 :: be u 8

def encI (u : Int) : List Int :=
  if u < -2147483648 then 211 :: be u 8 else if u < -32768 then 210 :: be u 4 else if u < -128 then 209 :: be u 2 else if u < -32 then 208 :: be u 1 else if u < 0 then [u + 256] else
  if u ≤ 127 then [u] else if u ≤ 32767 then 209 :: be u 2 else if u ≤ 2147483647 then 210 :: be u 4 else 211 :: be u 8

/-- PRINTED by wip/gend.py. One cell of its own reads. -/
theorem reads_one (w : World) (v : Value) (t : TypeId) : Reads (w.alloc (.cells #[v] t)) (w.heap.size + 1) 1 (some ⟨w.heap.size, 0, none⟩) 1 [v] := by
  have h := (Blk.new w t [v]).reads 0 1 (by simp)
  simpa using h

theorem wfixint_calls (w : World) (u : Int) (h0 : 0 ≤ u) (hu : u ≤ 127) : Calls Try.prog 60 #[.int .u8 u] w fun e w' => e = .returned (.int .u8 u) ∧ w = w' := by
  have hb : bits .and .u8 u 127 = u := by rw [and127 u h0 (by omega)]; omega
  go_enter Try.func60, Try.ntmps60
  go_wp2
  go_ret
  exact ⟨rfl, rfl⟩

theorem wnfixint_calls (w : World) (u : Int) (h0 : -32 ≤ u) (hu : u < 0) : Calls Try.prog 64 #[.int .i8 u] w fun e w' => e = .returned (.int .u8 (u + 256)) ∧ w = w' := by
  have hb : bits .or .u8 (u + 256) 224 = u + 256 := by rw [or224 _ (by omega) (by omega)]; omega
  have hw : IntKind.u8.wrap u = u + 256 := by rw [IntKind.wrap_u8]; omega
  go_enter Try.func64, Try.ntmps64
  go_wp2
  go_ret
  exact ⟨rfl, rfl⟩

set_option maxHeartbeats 2000000 in
theorem AppendUint64_calls (w0 w : World) (B g : Nat) (u : Int) (cs xs : List Value) (hw0 : Below B w0 w) (hB : B ≤ g) (hBw : B ≤ w.heap.size) (hb : Blk w g 5 cs) (hx : cs.take xs.length = xs) (hm : cs.length ≤ maxLen) (hs : xs.length ≤ 1099511000000) (h1 : ∀ u ∈ xs, u.oneCell' = true) (h0 : 0 ≤ u) (hu : u ≤ 18446744073709551615) :
    Calls Try.prog 51 #[.slice (some ⟨g, 0, none⟩) xs.length cs.length, .int .u64 u] w (App w0 B (xs ++ bs (encU u))) := by
  obtain ⟨i0, hi0, hz0, hz1, hz2⟩ := info_parts infoU8
  have hn : xs.length ≤ cs.length := by
    have := congrArg List.length hx
    rw [List.length_take] at this
    omega
  have hgl := hb.lt
  have HB := Lib.hid hb
  have HX := Lib.hid hx
  have H1 := Lib.hid h1
  have HW0 := Lib.hid hw0
  have HN : Hid (xs.length ≤ cs.length) := hn
  clear hb hx h1 hw0 hn
  by_cases u0 : u ≤ 127
  · have e : encU u = [u] := by unfold encU; rw [if_pos u0]
    rw [e]
    clear e
    go_enter Try.func51, Try.ntmps51
    go_wp2_with (first
      | (go_at_call 60; refine (wfixint_calls _ u (by omega) (by omega)).mono ?_; rintro e w' ⟨rfl, rfl⟩)
      | (at_builtin
         go_must (
           (refine wpList_append_any _ rfl (.tmp 27) (.tmp 31) 22 rfl B 5 i0 _ 1 1 Try.underlying22 hi0 hz0 hz1 hz2 rfl (by omega) (.slice (some ⟨g, 0, none⟩) xs.length cs.length) xs.length xs rfl ?_ (w.heap.size + 1) _ 1 1 [.int .u8 (u)] rfl (reads_one _ _ _) (by simp; rfl) (by simp only [maxLen]; omega) (by omega) (by simp; omega) ?_)
           · exact (show _ from by
               have ho := blk_own HB.out hB HN.out hm
               rw [HX.out] at ho
               exact ho.alloc _)
           intro v1 w1 hown1 hg1 hat1)))
    go_ret
    have hne : v1 ≠ .slice none 0 0 := by
      rintro rfl
      rcases hat1 with h | h <;> simp [Value.ownBlock] at h
    have hown : w1.ownsRow B 5 1 v1 (xs ++ bs [u]).length (xs ++ bs [u]) := by simpa [bs] using hown1
    refine app_own hown hne (((HW0.out).alloc hBw _).grown hg1 (by simp; omega) (fun k hk => ?_))
    simp [Value.ownBlock] at hk
    omega
  · by_cases u1 : u ≤ 255
    · have e : encU u = 204 :: be u 1 := by unfold encU; rw [if_neg u0, if_pos u1]
      rw [e]
      clear e
      go_enter Try.func51, Try.ntmps51
      go_wp2_with (first
        | (go_at_call 31
           go_must (
             (refine (ensure_int _ g 2 2 rfl cs xs HB.out HX.out hm (by omega) H1.out).mono ?_)
             rintro e w1 ⟨g', cs', rfl, hb1, hn1, hm1, ht1, hbel, hk⟩
             have HB1 := Lib.hid hb1
             have HT1 := Lib.hid ht1
             have HL1 := Lib.hid hbel
             have HK1 := Lib.hid hk
             have hm1' : cs'.length ≤ 9223372036854775807 := by unfold maxLen at hm1; omega
             clear hb1 ht1 hbel hk))
        | (go_at_call 71
           go_must (
             (refine (putMuint8_calls _ g' xs.length _ _ u cs' HB1.out (by omega) (by omega) hm1 (by omega) (by omega)).mono ?_)
             rintro e w2 ⟨rfl, hb2, hg2, hs2⟩
             have HB2 := Lib.hid hb2
             have HG2 := Lib.hid hg2
             clear hb2 hg2 hs2)))
      go_ret
      exact app_wrote (news := bs (204 :: be u 1)) HW0.out hB hBw HL1.out HK1.out (by simpa [bs_length, be_length] using hn1) hm1 HT1.out HB2.out HG2.out
    · by_cases u2 : u ≤ 65535
      · have e : encU u = 205 :: be u 2 := by unfold encU; rw [if_neg u0, if_neg u1, if_pos u2]
        rw [e]
        clear e
        go_enter Try.func51, Try.ntmps51
        go_wp2_with (first
          | (go_at_call 31
             go_must (
               (refine (ensure_int _ g 3 3 rfl cs xs HB.out HX.out hm (by omega) H1.out).mono ?_)
               rintro e w1 ⟨g', cs', rfl, hb1, hn1, hm1, ht1, hbel, hk⟩
               have HB1 := Lib.hid hb1
               have HT1 := Lib.hid ht1
               have HL1 := Lib.hid hbel
               have HK1 := Lib.hid hk
               have hm1' : cs'.length ≤ 9223372036854775807 := by unfold maxLen at hm1; omega
               clear hb1 ht1 hbel hk))
          | (go_at_call 72
             go_must (
               (refine (putMuint16_calls _ g' xs.length _ _ u cs' HB1.out (by omega) (by omega) hm1 (by omega) (by omega)).mono ?_)
               rintro e w2 ⟨rfl, hb2, hg2, hs2⟩
               have HB2 := Lib.hid hb2
               have HG2 := Lib.hid hg2
               clear hb2 hg2 hs2)))
        go_ret
        exact app_wrote (news := bs (205 :: be u 2)) HW0.out hB hBw HL1.out HK1.out (by simpa [bs_length, be_length] using hn1) hm1 HT1.out HB2.out HG2.out
      · by_cases u3 : u ≤ 4294967295
        · have e : encU u = 206 :: be u 4 := by unfold encU; rw [if_neg u0, if_neg u1, if_neg u2, if_pos u3]
          rw [e]
          clear e
          go_enter Try.func51, Try.ntmps51
          go_wp2_with (first
            | (go_at_call 31
               go_must (
                 (refine (ensure_int _ g 5 5 rfl cs xs HB.out HX.out hm (by omega) H1.out).mono ?_)
                 rintro e w1 ⟨g', cs', rfl, hb1, hn1, hm1, ht1, hbel, hk⟩
                 have HB1 := Lib.hid hb1
                 have HT1 := Lib.hid ht1
                 have HL1 := Lib.hid hbel
                 have HK1 := Lib.hid hk
                 have hm1' : cs'.length ≤ 9223372036854775807 := by unfold maxLen at hm1; omega
                 clear hb1 ht1 hbel hk))
            | (go_at_call 73
               go_must (
                 (refine (putMuint32_calls _ g' xs.length _ _ u cs' HB1.out (by omega) (by omega) hm1 (by omega) (by omega)).mono ?_)
                 rintro e w2 ⟨rfl, hb2, hg2, hs2⟩
                 have HB2 := Lib.hid hb2
                 have HG2 := Lib.hid hg2
                 clear hb2 hg2 hs2)))
          go_ret
          exact app_wrote (news := bs (206 :: be u 4)) HW0.out hB hBw HL1.out HK1.out (by simpa [bs_length, be_length] using hn1) hm1 HT1.out HB2.out HG2.out
        · have e : encU u = 207 :: be u 8 := by unfold encU; rw [if_neg u0, if_neg u1, if_neg u2, if_neg u3]
          rw [e]
          clear e
          go_enter Try.func51, Try.ntmps51
          go_wp2_with (first
            | (go_at_call 31
               go_must (
                 (refine (ensure_int _ g 9 9 rfl cs xs HB.out HX.out hm (by omega) H1.out).mono ?_)
                 rintro e w1 ⟨g', cs', rfl, hb1, hn1, hm1, ht1, hbel, hk⟩
                 have HB1 := Lib.hid hb1
                 have HT1 := Lib.hid ht1
                 have HL1 := Lib.hid hbel
                 have HK1 := Lib.hid hk
                 have hm1' : cs'.length ≤ 9223372036854775807 := by unfold maxLen at hm1; omega
                 clear hb1 ht1 hbel hk))
            | (go_at_call 74
               go_must (
                 (refine (putMuint64_calls _ g' xs.length _ _ u cs' HB1.out (by omega) (by omega) hm1 (by omega) (by omega)).mono ?_)
                 rintro e w2 ⟨rfl, hb2, hg2, hs2⟩
                 have HB2 := Lib.hid hb2
                 have HG2 := Lib.hid hg2
                 clear hb2 hg2 hs2)))
          go_ret
          exact app_wrote (news := bs (207 :: be u 8)) HW0.out hB hBw HL1.out HK1.out (by simpa [bs_length, be_length] using hn1) hm1 HT1.out HB2.out HG2.out

set_option maxHeartbeats 2000000 in
theorem AppendInt64_calls (w0 w : World) (B g : Nat) (u : Int) (cs xs : List Value) (hw0 : Below B w0 w) (hB : B ≤ g) (hBw : B ≤ w.heap.size) (hb : Blk w g 5 cs) (hx : cs.take xs.length = xs) (hm : cs.length ≤ maxLen) (hs : xs.length ≤ 1099511000000) (h1 : ∀ u ∈ xs, u.oneCell' = true) (h0 : -9223372036854775808 ≤ u) (hu : u ≤ 9223372036854775807) :
    Calls Try.prog 40 #[.slice (some ⟨g, 0, none⟩) xs.length cs.length, .int .i64 u] w (App w0 B (xs ++ bs (encI u))) := by
  obtain ⟨i0, hi0, hz0, hz1, hz2⟩ := info_parts infoU8
  have hn : xs.length ≤ cs.length := by
    have := congrArg List.length hx
    rw [List.length_take] at this
    omega
  have hgl := hb.lt
  have HB := Lib.hid hb
  have HX := Lib.hid hx
  have H1 := Lib.hid h1
  have HW0 := Lib.hid hw0
  have HN : Hid (xs.length ≤ cs.length) := hn
  clear hb hx h1 hw0 hn
  by_cases u0 : u < -2147483648
  · have e : encI u = 211 :: be u 8 := by unfold encI; rw [if_pos u0]
    rw [e]
    clear e
    have qa0 : decide ((-2147483648 : Int) ≤ u) = false := decide_eq_false (by omega)
    have qa1 : decide ((-32768 : Int) ≤ u) = false := decide_eq_false (by omega)
    have qa2 : decide ((-128 : Int) ≤ u) = false := decide_eq_false (by omega)
    have qa3 : decide ((-32 : Int) ≤ u) = false := decide_eq_false (by omega)
    have qa4 : decide ((0 : Int) ≤ u) = false := decide_eq_false (by omega)
    have qb0 : decide (u ≤ (127 : Int)) = true := decide_eq_true (by omega)
    have qb1 : decide (u ≤ (32767 : Int)) = true := decide_eq_true (by omega)
    have qb2 : decide (u ≤ (2147483647 : Int)) = true := decide_eq_true (by omega)
    go_enter Try.func40, Try.ntmps40
    go_wp2_with (first
      | (go_at_call 31
         go_must (
           (refine (ensure_int _ g 9 9 rfl cs xs HB.out HX.out hm (by omega) H1.out).mono ?_)
           rintro e w1 ⟨g', cs', rfl, hb1, hn1, hm1, ht1, hbel, hk⟩
           have HB1 := Lib.hid hb1
           have HT1 := Lib.hid ht1
           have HL1 := Lib.hid hbel
           have HK1 := Lib.hid hk
           have hm1' : cs'.length ≤ 9223372036854775807 := by unfold maxLen at hm1; omega
           clear hb1 ht1 hbel hk))
      | (go_at_call 63
         go_must (
           (refine (putMint64_calls _ g' xs.length _ _ u cs' HB1.out (by omega) (by omega) hm1 (by omega) (by omega)).mono ?_)
           rintro e w2 ⟨rfl, hb2, hg2, hs2⟩
           have HB2 := Lib.hid hb2
           have HG2 := Lib.hid hg2
           clear hb2 hg2 hs2)))
    go_ret
    exact app_wrote (news := bs (211 :: be u 8)) HW0.out hB hBw HL1.out HK1.out (by simpa [bs_length, be_length] using hn1) hm1 HT1.out HB2.out HG2.out
  · by_cases u1 : u < -32768
    · have e : encI u = 210 :: be u 4 := by unfold encI; rw [if_neg u0, if_pos u1]
      rw [e]
      clear e
      have qa0 : decide ((-2147483648 : Int) ≤ u) = true := decide_eq_true (by omega)
      have qa1 : decide ((-32768 : Int) ≤ u) = false := decide_eq_false (by omega)
      have qa2 : decide ((-128 : Int) ≤ u) = false := decide_eq_false (by omega)
      have qa3 : decide ((-32 : Int) ≤ u) = false := decide_eq_false (by omega)
      have qa4 : decide ((0 : Int) ≤ u) = false := decide_eq_false (by omega)
      have qb0 : decide (u ≤ (127 : Int)) = true := decide_eq_true (by omega)
      have qb1 : decide (u ≤ (32767 : Int)) = true := decide_eq_true (by omega)
      have qb2 : decide (u ≤ (2147483647 : Int)) = true := decide_eq_true (by omega)
      go_enter Try.func40, Try.ntmps40
      go_wp2_with (first
        | (go_at_call 31
           go_must (
             (refine (ensure_int _ g 5 5 rfl cs xs HB.out HX.out hm (by omega) H1.out).mono ?_)
             rintro e w1 ⟨g', cs', rfl, hb1, hn1, hm1, ht1, hbel, hk⟩
             have HB1 := Lib.hid hb1
             have HT1 := Lib.hid ht1
             have HL1 := Lib.hid hbel
             have HK1 := Lib.hid hk
             have hm1' : cs'.length ≤ 9223372036854775807 := by unfold maxLen at hm1; omega
             clear hb1 ht1 hbel hk))
        | (go_at_call 62
           go_must (
             (refine (putMint32_calls _ g' xs.length _ _ u cs' HB1.out (by omega) (by omega) hm1 (by omega) (by omega)).mono ?_)
             rintro e w2 ⟨rfl, hb2, hg2, hs2⟩
             have HB2 := Lib.hid hb2
             have HG2 := Lib.hid hg2
             clear hb2 hg2 hs2)))
      go_ret
      exact app_wrote (news := bs (210 :: be u 4)) HW0.out hB hBw HL1.out HK1.out (by simpa [bs_length, be_length] using hn1) hm1 HT1.out HB2.out HG2.out
    · by_cases u2 : u < -128
      · have e : encI u = 209 :: be u 2 := by unfold encI; rw [if_neg u0, if_neg u1, if_pos u2]
        rw [e]
        clear e
        have qa0 : decide ((-2147483648 : Int) ≤ u) = true := decide_eq_true (by omega)
        have qa1 : decide ((-32768 : Int) ≤ u) = true := decide_eq_true (by omega)
        have qa2 : decide ((-128 : Int) ≤ u) = false := decide_eq_false (by omega)
        have qa3 : decide ((-32 : Int) ≤ u) = false := decide_eq_false (by omega)
        have qa4 : decide ((0 : Int) ≤ u) = false := decide_eq_false (by omega)
        have qb0 : decide (u ≤ (127 : Int)) = true := decide_eq_true (by omega)
        have qb1 : decide (u ≤ (32767 : Int)) = true := decide_eq_true (by omega)
        have qb2 : decide (u ≤ (2147483647 : Int)) = true := decide_eq_true (by omega)
        go_enter Try.func40, Try.ntmps40
        go_wp2_with (first
          | (go_at_call 31
             go_must (
               (refine (ensure_int _ g 3 3 rfl cs xs HB.out HX.out hm (by omega) H1.out).mono ?_)
               rintro e w1 ⟨g', cs', rfl, hb1, hn1, hm1, ht1, hbel, hk⟩
               have HB1 := Lib.hid hb1
               have HT1 := Lib.hid ht1
               have HL1 := Lib.hid hbel
               have HK1 := Lib.hid hk
               have hm1' : cs'.length ≤ 9223372036854775807 := by unfold maxLen at hm1; omega
               clear hb1 ht1 hbel hk))
          | (go_at_call 61
             go_must (
               (refine (putMint16_calls _ g' xs.length _ _ u cs' HB1.out (by omega) (by omega) hm1 (by omega) (by omega)).mono ?_)
               rintro e w2 ⟨rfl, hb2, hg2, hs2⟩
               have HB2 := Lib.hid hb2
               have HG2 := Lib.hid hg2
               clear hb2 hg2 hs2)))
        go_ret
        exact app_wrote (news := bs (209 :: be u 2)) HW0.out hB hBw HL1.out HK1.out (by simpa [bs_length, be_length] using hn1) hm1 HT1.out HB2.out HG2.out
      · by_cases u3 : u < -32
        · have e : encI u = 208 :: be u 1 := by unfold encI; rw [if_neg u0, if_neg u1, if_neg u2, if_pos u3]
          rw [e]
          clear e
          have qa0 : decide ((-2147483648 : Int) ≤ u) = true := decide_eq_true (by omega)
          have qa1 : decide ((-32768 : Int) ≤ u) = true := decide_eq_true (by omega)
          have qa2 : decide ((-128 : Int) ≤ u) = true := decide_eq_true (by omega)
          have qa3 : decide ((-32 : Int) ≤ u) = false := decide_eq_false (by omega)
          have qa4 : decide ((0 : Int) ≤ u) = false := decide_eq_false (by omega)
          have qb0 : decide (u ≤ (127 : Int)) = true := decide_eq_true (by omega)
          have qb1 : decide (u ≤ (32767 : Int)) = true := decide_eq_true (by omega)
          have qb2 : decide (u ≤ (2147483647 : Int)) = true := decide_eq_true (by omega)
          go_enter Try.func40, Try.ntmps40
          go_wp2_with (first
            | (go_at_call 31
               go_must (
                 (refine (ensure_int _ g 2 2 rfl cs xs HB.out HX.out hm (by omega) H1.out).mono ?_)
                 rintro e w1 ⟨g', cs', rfl, hb1, hn1, hm1, ht1, hbel, hk⟩
                 have HB1 := Lib.hid hb1
                 have HT1 := Lib.hid ht1
                 have HL1 := Lib.hid hbel
                 have HK1 := Lib.hid hk
                 have hm1' : cs'.length ≤ 9223372036854775807 := by unfold maxLen at hm1; omega
                 clear hb1 ht1 hbel hk))
            | (go_at_call 65
               go_must (
                 (refine (putMint8_calls _ g' xs.length _ _ u cs' HB1.out (by omega) (by omega) hm1 (by omega) (by omega)).mono ?_)
                 rintro e w2 ⟨rfl, hb2, hg2, hs2⟩
                 have HB2 := Lib.hid hb2
                 have HG2 := Lib.hid hg2
                 clear hb2 hg2 hs2)))
          go_ret
          exact app_wrote (news := bs (208 :: be u 1)) HW0.out hB hBw HL1.out HK1.out (by simpa [bs_length, be_length] using hn1) hm1 HT1.out HB2.out HG2.out
        · by_cases u4 : u < 0
          · have e : encI u = [u + 256] := by unfold encI; rw [if_neg u0, if_neg u1, if_neg u2, if_neg u3, if_pos u4]
            rw [e]
            clear e
            have qa0 : decide ((-2147483648 : Int) ≤ u) = true := decide_eq_true (by omega)
            have qa1 : decide ((-32768 : Int) ≤ u) = true := decide_eq_true (by omega)
            have qa2 : decide ((-128 : Int) ≤ u) = true := decide_eq_true (by omega)
            have qa3 : decide ((-32 : Int) ≤ u) = true := decide_eq_true (by omega)
            have qa4 : decide ((0 : Int) ≤ u) = false := decide_eq_false (by omega)
            have qb0 : decide (u ≤ (127 : Int)) = true := decide_eq_true (by omega)
            have qb1 : decide (u ≤ (32767 : Int)) = true := decide_eq_true (by omega)
            have qb2 : decide (u ≤ (2147483647 : Int)) = true := decide_eq_true (by omega)
            go_enter Try.func40, Try.ntmps40
            go_wp2_with (first
              | (go_at_call 64; refine (wnfixint_calls _ u (by omega) (by omega)).mono ?_; rintro e w' ⟨rfl, rfl⟩)
              | (at_builtin
                 go_must (
                   (refine wpList_append_any _ rfl (.tmp 85) (.tmp 89) 22 rfl B 5 i0 _ 1 1 Try.underlying22 hi0 hz0 hz1 hz2 rfl (by omega) (.slice (some ⟨g, 0, none⟩) xs.length cs.length) xs.length xs rfl ?_ (w.heap.size + 1) _ 1 1 [.int .u8 (u + 256)] rfl (reads_one _ _ _) (by simp; rfl) (by simp only [maxLen]; omega) (by omega) (by simp; omega) ?_)
                   · exact (show _ from by
                       have ho := blk_own HB.out hB HN.out hm
                       rw [HX.out] at ho
                       exact ho.alloc _)
                   intro v1 w1 hown1 hg1 hat1)))
            go_ret
            have hne : v1 ≠ .slice none 0 0 := by
              rintro rfl
              rcases hat1 with h | h <;> simp [Value.ownBlock] at h
            have hown : w1.ownsRow B 5 1 v1 (xs ++ bs [u + 256]).length (xs ++ bs [u + 256]) := by simpa [bs] using hown1
            refine app_own hown hne (((HW0.out).alloc hBw _).grown hg1 (by simp; omega) (fun k hk => ?_))
            simp [Value.ownBlock] at hk
            omega
          · by_cases u5 : u ≤ 127
            · have e : encI u = [u] := by unfold encI; rw [if_neg u0, if_neg u1, if_neg u2, if_neg u3, if_neg u4, if_pos u5]
              rw [e]
              clear e
              have qa0 : decide ((-2147483648 : Int) ≤ u) = true := decide_eq_true (by omega)
              have qa1 : decide ((-32768 : Int) ≤ u) = true := decide_eq_true (by omega)
              have qa2 : decide ((-128 : Int) ≤ u) = true := decide_eq_true (by omega)
              have qa3 : decide ((-32 : Int) ≤ u) = true := decide_eq_true (by omega)
              have qa4 : decide ((0 : Int) ≤ u) = true := decide_eq_true (by omega)
              have qb0 : decide (u ≤ (127 : Int)) = true := decide_eq_true (by omega)
              have qb1 : decide (u ≤ (32767 : Int)) = true := decide_eq_true (by omega)
              have qb2 : decide (u ≤ (2147483647 : Int)) = true := decide_eq_true (by omega)
              go_enter Try.func40, Try.ntmps40
              go_wp2_with (first
                | (go_at_call 60; refine (wfixint_calls _ u (by omega) (by omega)).mono ?_; rintro e w' ⟨rfl, rfl⟩)
                | (at_builtin
                   go_must (
                     (refine wpList_append_any _ rfl (.tmp 35) (.tmp 39) 22 rfl B 5 i0 _ 1 1 Try.underlying22 hi0 hz0 hz1 hz2 rfl (by omega) (.slice (some ⟨g, 0, none⟩) xs.length cs.length) xs.length xs rfl ?_ (w.heap.size + 1) _ 1 1 [.int .u8 (u)] rfl (reads_one _ _ _) (by simp; rfl) (by simp only [maxLen]; omega) (by omega) (by simp; omega) ?_)
                     · exact (show _ from by
                         have ho := blk_own HB.out hB HN.out hm
                         rw [HX.out] at ho
                         exact ho.alloc _)
                     intro v1 w1 hown1 hg1 hat1)))
              go_ret
              have hne : v1 ≠ .slice none 0 0 := by
                rintro rfl
                rcases hat1 with h | h <;> simp [Value.ownBlock] at h
              have hown : w1.ownsRow B 5 1 v1 (xs ++ bs [u]).length (xs ++ bs [u]) := by simpa [bs] using hown1
              refine app_own hown hne (((HW0.out).alloc hBw _).grown hg1 (by simp; omega) (fun k hk => ?_))
              simp [Value.ownBlock] at hk
              omega
            · by_cases u6 : u ≤ 32767
              · have e : encI u = 209 :: be u 2 := by unfold encI; rw [if_neg u0, if_neg u1, if_neg u2, if_neg u3, if_neg u4, if_neg u5, if_pos u6]
                rw [e]
                clear e
                have qa0 : decide ((-2147483648 : Int) ≤ u) = true := decide_eq_true (by omega)
                have qa1 : decide ((-32768 : Int) ≤ u) = true := decide_eq_true (by omega)
                have qa2 : decide ((-128 : Int) ≤ u) = true := decide_eq_true (by omega)
                have qa3 : decide ((-32 : Int) ≤ u) = true := decide_eq_true (by omega)
                have qa4 : decide ((0 : Int) ≤ u) = true := decide_eq_true (by omega)
                have qb0 : decide (u ≤ (127 : Int)) = false := decide_eq_false (by omega)
                have qb1 : decide (u ≤ (32767 : Int)) = true := decide_eq_true (by omega)
                have qb2 : decide (u ≤ (2147483647 : Int)) = true := decide_eq_true (by omega)
                go_enter Try.func40, Try.ntmps40
                go_wp2_with (first
                  | (go_at_call 31
                     go_must (
                       (refine (ensure_int _ g 3 3 rfl cs xs HB.out HX.out hm (by omega) H1.out).mono ?_)
                       rintro e w1 ⟨g', cs', rfl, hb1, hn1, hm1, ht1, hbel, hk⟩
                       have HB1 := Lib.hid hb1
                       have HT1 := Lib.hid ht1
                       have HL1 := Lib.hid hbel
                       have HK1 := Lib.hid hk
                       have hm1' : cs'.length ≤ 9223372036854775807 := by unfold maxLen at hm1; omega
                       clear hb1 ht1 hbel hk))
                  | (go_at_call 61
                     go_must (
                       (refine (putMint16_calls _ g' xs.length _ _ u cs' HB1.out (by omega) (by omega) hm1 (by omega) (by omega)).mono ?_)
                       rintro e w2 ⟨rfl, hb2, hg2, hs2⟩
                       have HB2 := Lib.hid hb2
                       have HG2 := Lib.hid hg2
                       clear hb2 hg2 hs2)))
                go_ret
                exact app_wrote (news := bs (209 :: be u 2)) HW0.out hB hBw HL1.out HK1.out (by simpa [bs_length, be_length] using hn1) hm1 HT1.out HB2.out HG2.out
              · by_cases u7 : u ≤ 2147483647
                · have e : encI u = 210 :: be u 4 := by unfold encI; rw [if_neg u0, if_neg u1, if_neg u2, if_neg u3, if_neg u4, if_neg u5, if_neg u6, if_pos u7]
                  rw [e]
                  clear e
                  have qa0 : decide ((-2147483648 : Int) ≤ u) = true := decide_eq_true (by omega)
                  have qa1 : decide ((-32768 : Int) ≤ u) = true := decide_eq_true (by omega)
                  have qa2 : decide ((-128 : Int) ≤ u) = true := decide_eq_true (by omega)
                  have qa3 : decide ((-32 : Int) ≤ u) = true := decide_eq_true (by omega)
                  have qa4 : decide ((0 : Int) ≤ u) = true := decide_eq_true (by omega)
                  have qb0 : decide (u ≤ (127 : Int)) = false := decide_eq_false (by omega)
                  have qb1 : decide (u ≤ (32767 : Int)) = false := decide_eq_false (by omega)
                  have qb2 : decide (u ≤ (2147483647 : Int)) = true := decide_eq_true (by omega)
                  go_enter Try.func40, Try.ntmps40
                  go_wp2_with (first
                    | (go_at_call 31
                       go_must (
                         (refine (ensure_int _ g 5 5 rfl cs xs HB.out HX.out hm (by omega) H1.out).mono ?_)
                         rintro e w1 ⟨g', cs', rfl, hb1, hn1, hm1, ht1, hbel, hk⟩
                         have HB1 := Lib.hid hb1
                         have HT1 := Lib.hid ht1
                         have HL1 := Lib.hid hbel
                         have HK1 := Lib.hid hk
                         have hm1' : cs'.length ≤ 9223372036854775807 := by unfold maxLen at hm1; omega
                         clear hb1 ht1 hbel hk))
                    | (go_at_call 62
                       go_must (
                         (refine (putMint32_calls _ g' xs.length _ _ u cs' HB1.out (by omega) (by omega) hm1 (by omega) (by omega)).mono ?_)
                         rintro e w2 ⟨rfl, hb2, hg2, hs2⟩
                         have HB2 := Lib.hid hb2
                         have HG2 := Lib.hid hg2
                         clear hb2 hg2 hs2)))
                  go_ret
                  exact app_wrote (news := bs (210 :: be u 4)) HW0.out hB hBw HL1.out HK1.out (by simpa [bs_length, be_length] using hn1) hm1 HT1.out HB2.out HG2.out
                · have e : encI u = 211 :: be u 8 := by unfold encI; rw [if_neg u0, if_neg u1, if_neg u2, if_neg u3, if_neg u4, if_neg u5, if_neg u6, if_neg u7]
                  rw [e]
                  clear e
                  have qa0 : decide ((-2147483648 : Int) ≤ u) = true := decide_eq_true (by omega)
                  have qa1 : decide ((-32768 : Int) ≤ u) = true := decide_eq_true (by omega)
                  have qa2 : decide ((-128 : Int) ≤ u) = true := decide_eq_true (by omega)
                  have qa3 : decide ((-32 : Int) ≤ u) = true := decide_eq_true (by omega)
                  have qa4 : decide ((0 : Int) ≤ u) = true := decide_eq_true (by omega)
                  have qb0 : decide (u ≤ (127 : Int)) = false := decide_eq_false (by omega)
                  have qb1 : decide (u ≤ (32767 : Int)) = false := decide_eq_false (by omega)
                  have qb2 : decide (u ≤ (2147483647 : Int)) = false := decide_eq_false (by omega)
                  go_enter Try.func40, Try.ntmps40
                  go_wp2_with (first
                    | (go_at_call 31
                       go_must (
                         (refine (ensure_int _ g 9 9 rfl cs xs HB.out HX.out hm (by omega) H1.out).mono ?_)
                         rintro e w1 ⟨g', cs', rfl, hb1, hn1, hm1, ht1, hbel, hk⟩
                         have HB1 := Lib.hid hb1
                         have HT1 := Lib.hid ht1
                         have HL1 := Lib.hid hbel
                         have HK1 := Lib.hid hk
                         have hm1' : cs'.length ≤ 9223372036854775807 := by unfold maxLen at hm1; omega
                         clear hb1 ht1 hbel hk))
                    | (go_at_call 63
                       go_must (
                         (refine (putMint64_calls _ g' xs.length _ _ u cs' HB1.out (by omega) (by omega) hm1 (by omega) (by omega)).mono ?_)
                         rintro e w2 ⟨rfl, hb2, hg2, hs2⟩
                         have HB2 := Lib.hid hb2
                         have HG2 := Lib.hid hg2
                         clear hb2 hg2 hs2)))
                  go_ret
                  exact app_wrote (news := bs (211 :: be u 8)) HW0.out hB hBw HL1.out HK1.out (by simpa [bs_length, be_length] using hn1) hm1 HT1.out HB2.out HG2.out

end Go.Proofs.Ytfhaddnacdjpoaa
