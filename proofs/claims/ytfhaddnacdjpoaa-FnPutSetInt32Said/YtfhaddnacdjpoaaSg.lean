/- AppendUint64, AppendInt64, and what they leave as it was: all but the row itself. PRINTED by wip/gensg.py. -/
import Derived.Test.YtfhaddnacdjpoaaSc
namespace Go.Proofs.Ytfhaddnacdjpoaa
open Go.RowKit
set_option linter.unusedVariables false

theorem grown_wrote {w w1 w2 : World} {g g' : Nat} (hb : Below w.heap.size w w1) (hk : g' = g ∨ g' = w.heap.size) (hg : w1.grownBy w2 (some g')) : w.grownBy w2 (some g) := by
  refine ⟨hg.os.trans hb.os, hg.tape.trans hb.tape, hg.output.trans hb.output, Nat.le_trans hb.size hg.size, fun i hi hne => ?_⟩
  refine (hg.block i (Nat.lt_of_lt_of_le hi hb.size) (fun e => ?_)).trans (hb.block i hi)
  rcases hk with rfl | rfl
  · exact hne e
  · simp at e; omega
/-- Of what stood, the row of block g alone has turned; what came out is that row, or one of its own. -/
def GrownAt (w : World) (g : Nat) (e : Ending) (w' : World) : Prop := w.grownBy w' (some g) ∧ ∀ g' n c, e = .returned (.slice (some ⟨g', 0, none⟩) n c) → g' = g ∨ w.heap.size ≤ g'
theorem grownAt_wrote {w w1 w2 : World} {g g' n c : Nat} (hb : Below w.heap.size w w1) (hk : g' = g ∨ g' = w.heap.size) (hg : w1.grownBy w2 (some g')) : GrownAt w g (.returned (.slice (some ⟨g', 0, none⟩) n c)) w2 :=
  ⟨grown_wrote hb hk hg, by
    intro g'' n' c' e
    cases e
    rcases hk with h | h
    · exact .inl h
    · exact .inr (Nat.le_of_eq h.symm)⟩
theorem grownAt_app {w w1 : World} {o : Obj} {v1 : Value} {g n c : Nat} (hg : (w.alloc o).grownBy w1 (Value.slice (some ⟨g, 0, none⟩) n c).ownBlock) (hat : v1.ownBlock = (Value.slice (some ⟨g, 0, none⟩) n c).ownBlock ∨ v1.ownBlock = some (w.alloc o).heap.size) : GrownAt w g (.returned v1) w1 :=
  ⟨(World.grownBy_alloc w o (some g)).trans hg, by
    intro g' n' c' e
    cases e
    rcases hat with h | h
    · simp [Value.ownBlock] at h; exact .inl h
    · simp [Value.ownBlock] at h; exact .inr (by omega)⟩
set_option maxHeartbeats 2000000 in
theorem AppendUint64_g (w0 w : World) (B g : Nat) (u : Int) (cs xs : List Value) (hw0 : Below B w0 w) (hB : B ≤ g) (hBw : B ≤ w.heap.size) (hb : Blk w g 5 cs) (hx : cs.take xs.length = xs) (hm : cs.length ≤ maxLen) (hs : xs.length ≤ 1099511000000) (h1 : ∀ u ∈ xs, u.oneCell' = true) (h0 : 0 ≤ u) (hu : u ≤ 18446744073709551615) :
    Calls Try.prog 51 #[.slice (some ⟨g, 0, none⟩) xs.length cs.length, .int .u64 u] w (fun e w' => App w0 B (xs ++ bs (encU u)) e w' ∧ GrownAt w g e w') := by
  obtain ⟨i0, hi0, hz0, hz1, hz2⟩ := info_parts infoU8
  have hn : xs.length ≤ cs.length := by
    have := congrArg List.length hx
    rw [List.length_take] at this
    omega
  have hgl := hb.lt
  have HB := Lib.hid hb
  have HX := Lib.hid hx
  have H1 := Lib.hid h1
  have HW0 := Lib.hid hw0
  have HN : Hid (xs.length ≤ cs.length) := hn
  clear hb hx h1 hw0 hn
  by_cases u0 : u ≤ 127
  · have e : encU u = [u] := by unfold encU; rw [if_pos u0]
    rw [e]
    clear e
    go_enter Try.func51, Try.ntmps51
    go_wp2_with (first
      | (go_at_call 60; refine (wfixint_calls _ u (by omega) (by omega)).mono ?_; rintro e w' ⟨rfl, rfl⟩)
      | (at_builtin
         go_must (
           (refine wpList_append_any _ rfl (.tmp 27) (.tmp 31) 22 rfl B 5 i0 _ 1 1 Try.underlying22 hi0 hz0 hz1 hz2 rfl (by omega) (.slice (some ⟨g, 0, none⟩) xs.length cs.length) xs.length xs rfl ?_ (w.heap.size + 1) _ 1 1 [.int .u8 (u)] rfl (reads_one _ _ _) (by simp; rfl) (by simp only [maxLen]; omega) (by omega) (by simp; omega) ?_)
           · exact (show _ from by
               have ho := blk_own HB.out hB HN.out hm
               rw [HX.out] at ho
               exact ho.alloc _)
           intro v1 w1 hown1 hg1 hat1)))
    go_ret
    have hne : v1 ≠ .slice none 0 0 := by
      rintro rfl
      rcases hat1 with h | h <;> simp [Value.ownBlock] at h
    have hown : w1.ownsRow B 5 1 v1 (xs ++ bs [u]).length (xs ++ bs [u]) := by simpa [bs] using hown1
    refine ⟨app_own hown hne (((HW0.out).alloc hBw _).grown hg1 (by simp; omega) (fun k hk => ?_)), grownAt_app hg1 hat1⟩
    simp [Value.ownBlock] at hk
    omega
  · by_cases u1 : u ≤ 255
    · have e : encU u = 204 :: be u 1 := by unfold encU; rw [if_neg u0, if_pos u1]
      rw [e]
      clear e
      go_enter Try.func51, Try.ntmps51
      go_wp2_with (first
        | (go_at_call 31
           go_must (
             (refine (ensure_int _ g 2 2 rfl cs xs HB.out HX.out hm (by omega) H1.out).mono ?_)
             rintro e w1 ⟨g', cs', rfl, hb1, hn1, hm1, ht1, hbel, hk⟩
             have HB1 := Lib.hid hb1
             have HT1 := Lib.hid ht1
             have HL1 := Lib.hid hbel
             have HK1 := Lib.hid hk
             have hm1' : cs'.length ≤ 9223372036854775807 := by unfold maxLen at hm1; omega
             clear hb1 ht1 hbel hk))
        | (go_at_call 71
           go_must (
             (refine (putMuint8_calls _ g' xs.length _ _ u cs' HB1.out (by omega) (by omega) hm1 (by omega) (by omega)).mono ?_)
             rintro e w2 ⟨rfl, hb2, hg2, hs2⟩
             have HB2 := Lib.hid hb2
             have HG2 := Lib.hid hg2
             clear hb2 hg2 hs2)))
      go_ret
      exact ⟨app_wrote (news := bs (204 :: be u 1)) HW0.out hB hBw HL1.out HK1.out (by simpa [bs_length, be_length] using hn1) hm1 HT1.out HB2.out HG2.out, grownAt_wrote HL1.out HK1.out HG2.out⟩
    · by_cases u2 : u ≤ 65535
      · have e : encU u = 205 :: be u 2 := by unfold encU; rw [if_neg u0, if_neg u1, if_pos u2]
        rw [e]
        clear e
        go_enter Try.func51, Try.ntmps51
        go_wp2_with (first
          | (go_at_call 31
             go_must (
               (refine (ensure_int _ g 3 3 rfl cs xs HB.out HX.out hm (by omega) H1.out).mono ?_)
               rintro e w1 ⟨g', cs', rfl, hb1, hn1, hm1, ht1, hbel, hk⟩
               have HB1 := Lib.hid hb1
               have HT1 := Lib.hid ht1
               have HL1 := Lib.hid hbel
               have HK1 := Lib.hid hk
               have hm1' : cs'.length ≤ 9223372036854775807 := by unfold maxLen at hm1; omega
               clear hb1 ht1 hbel hk))
          | (go_at_call 72
             go_must (
               (refine (putMuint16_calls _ g' xs.length _ _ u cs' HB1.out (by omega) (by omega) hm1 (by omega) (by omega)).mono ?_)
               rintro e w2 ⟨rfl, hb2, hg2, hs2⟩
               have HB2 := Lib.hid hb2
               have HG2 := Lib.hid hg2
               clear hb2 hg2 hs2)))
        go_ret
        exact ⟨app_wrote (news := bs (205 :: be u 2)) HW0.out hB hBw HL1.out HK1.out (by simpa [bs_length, be_length] using hn1) hm1 HT1.out HB2.out HG2.out, grownAt_wrote HL1.out HK1.out HG2.out⟩
      · by_cases u3 : u ≤ 4294967295
        · have e : encU u = 206 :: be u 4 := by unfold encU; rw [if_neg u0, if_neg u1, if_neg u2, if_pos u3]
          rw [e]
          clear e
          go_enter Try.func51, Try.ntmps51
          go_wp2_with (first
            | (go_at_call 31
               go_must (
                 (refine (ensure_int _ g 5 5 rfl cs xs HB.out HX.out hm (by omega) H1.out).mono ?_)
                 rintro e w1 ⟨g', cs', rfl, hb1, hn1, hm1, ht1, hbel, hk⟩
                 have HB1 := Lib.hid hb1
                 have HT1 := Lib.hid ht1
                 have HL1 := Lib.hid hbel
                 have HK1 := Lib.hid hk
                 have hm1' : cs'.length ≤ 9223372036854775807 := by unfold maxLen at hm1; omega
                 clear hb1 ht1 hbel hk))
            | (go_at_call 73
               go_must (
                 (refine (putMuint32_calls _ g' xs.length _ _ u cs' HB1.out (by omega) (by omega) hm1 (by omega) (by omega)).mono ?_)
                 rintro e w2 ⟨rfl, hb2, hg2, hs2⟩
                 have HB2 := Lib.hid hb2
                 have HG2 := Lib.hid hg2
                 clear hb2 hg2 hs2)))
          go_ret
          exact ⟨app_wrote (news := bs (206 :: be u 4)) HW0.out hB hBw HL1.out HK1.out (by simpa [bs_length, be_length] using hn1) hm1 HT1.out HB2.out HG2.out, grownAt_wrote HL1.out HK1.out HG2.out⟩
        · have e : encU u = 207 :: be u 8 := by unfold encU; rw [if_neg u0, if_neg u1, if_neg u2, if_neg u3]
          rw [e]
          clear e
          go_enter Try.func51, Try.ntmps51
          go_wp2_with (first
            | (go_at_call 31
               go_must (
                 (refine (ensure_int _ g 9 9 rfl cs xs HB.out HX.out hm (by omega) H1.out).mono ?_)
                 rintro e w1 ⟨g', cs', rfl, hb1, hn1, hm1, ht1, hbel, hk⟩
                 have HB1 := Lib.hid hb1
                 have HT1 := Lib.hid ht1
                 have HL1 := Lib.hid hbel
                 have HK1 := Lib.hid hk
                 have hm1' : cs'.length ≤ 9223372036854775807 := by unfold maxLen at hm1; omega
                 clear hb1 ht1 hbel hk))
            | (go_at_call 74
               go_must (
                 (refine (putMuint64_calls _ g' xs.length _ _ u cs' HB1.out (by omega) (by omega) hm1 (by omega) (by omega)).mono ?_)
                 rintro e w2 ⟨rfl, hb2, hg2, hs2⟩
                 have HB2 := Lib.hid hb2
                 have HG2 := Lib.hid hg2
                 clear hb2 hg2 hs2)))
          go_ret
          exact ⟨app_wrote (news := bs (207 :: be u 8)) HW0.out hB hBw HL1.out HK1.out (by simpa [bs_length, be_length] using hn1) hm1 HT1.out HB2.out HG2.out, grownAt_wrote HL1.out HK1.out HG2.out⟩

set_option maxHeartbeats 2000000 in
theorem AppendInt64_g (w0 w : World) (B g : Nat) (u : Int) (cs xs : List Value) (hw0 : Below B w0 w) (hB : B ≤ g) (hBw : B ≤ w.heap.size) (hb : Blk w g 5 cs) (hx : cs.take xs.length = xs) (hm : cs.length ≤ maxLen) (hs : xs.length ≤ 1099511000000) (h1 : ∀ u ∈ xs, u.oneCell' = true) (h0 : -9223372036854775808 ≤ u) (hu : u ≤ 9223372036854775807) :
    Calls Try.prog 40 #[.slice (some ⟨g, 0, none⟩) xs.length cs.length, .int .i64 u] w (fun e w' => App w0 B (xs ++ bs (encI u)) e w' ∧ GrownAt w g e w') := by
  obtain ⟨i0, hi0, hz0, hz1, hz2⟩ := info_parts infoU8
  have hn : xs.length ≤ cs.length := by
    have := congrArg List.length hx
    rw [List.length_take] at this
    omega
  have hgl := hb.lt
  have HB := Lib.hid hb
  have HX := Lib.hid hx
  have H1 := Lib.hid h1
  have HW0 := Lib.hid hw0
  have HN : Hid (xs.length ≤ cs.length) := hn
  clear hb hx h1 hw0 hn
  by_cases u0 : u < -2147483648
  · have e : encI u = 211 :: be u 8 := by unfold encI; rw [if_pos u0]
    rw [e]
    clear e
    have qa0 : decide ((-2147483648 : Int) ≤ u) = false := decide_eq_false (by omega)
    have qa1 : decide ((-32768 : Int) ≤ u) = false := decide_eq_false (by omega)
    have qa2 : decide ((-128 : Int) ≤ u) = false := decide_eq_false (by omega)
    have qa3 : decide ((-32 : Int) ≤ u) = false := decide_eq_false (by omega)
    have qa4 : decide ((0 : Int) ≤ u) = false := decide_eq_false (by omega)
    have qb0 : decide (u ≤ (127 : Int)) = true := decide_eq_true (by omega)
    have qb1 : decide (u ≤ (32767 : Int)) = true := decide_eq_true (by omega)
    have qb2 : decide (u ≤ (2147483647 : Int)) = true := decide_eq_true (by omega)
    go_enter Try.func40, Try.ntmps40
    go_wp2_with (first
      | (go_at_call 31
         go_must (
           (refine (ensure_int _ g 9 9 rfl cs xs HB.out HX.out hm (by omega) H1.out).mono ?_)
           rintro e w1 ⟨g', cs', rfl, hb1, hn1, hm1, ht1, hbel, hk⟩
           have HB1 := Lib.hid hb1
           have HT1 := Lib.hid ht1
           have HL1 := Lib.hid hbel
           have HK1 := Lib.hid hk
           have hm1' : cs'.length ≤ 9223372036854775807 := by unfold maxLen at hm1; omega
           clear hb1 ht1 hbel hk))
      | (go_at_call 63
         go_must (
           (refine (putMint64_calls _ g' xs.length _ _ u cs' HB1.out (by omega) (by omega) hm1 (by omega) (by omega)).mono ?_)
           rintro e w2 ⟨rfl, hb2, hg2, hs2⟩
           have HB2 := Lib.hid hb2
           have HG2 := Lib.hid hg2
           clear hb2 hg2 hs2)))
    go_ret
    exact ⟨app_wrote (news := bs (211 :: be u 8)) HW0.out hB hBw HL1.out HK1.out (by simpa [bs_length, be_length] using hn1) hm1 HT1.out HB2.out HG2.out, grownAt_wrote HL1.out HK1.out HG2.out⟩
  · by_cases u1 : u < -32768
    · have e : encI u = 210 :: be u 4 := by unfold encI; rw [if_neg u0, if_pos u1]
      rw [e]
      clear e
      have qa0 : decide ((-2147483648 : Int) ≤ u) = true := decide_eq_true (by omega)
      have qa1 : decide ((-32768 : Int) ≤ u) = false := decide_eq_false (by omega)
      have qa2 : decide ((-128 : Int) ≤ u) = false := decide_eq_false (by omega)
      have qa3 : decide ((-32 : Int) ≤ u) = false := decide_eq_false (by omega)
      have qa4 : decide ((0 : Int) ≤ u) = false := decide_eq_false (by omega)
      have qb0 : decide (u ≤ (127 : Int)) = true := decide_eq_true (by omega)
      have qb1 : decide (u ≤ (32767 : Int)) = true := decide_eq_true (by omega)
      have qb2 : decide (u ≤ (2147483647 : Int)) = true := decide_eq_true (by omega)
      go_enter Try.func40, Try.ntmps40
      go_wp2_with (first
        | (go_at_call 31
           go_must (
             (refine (ensure_int _ g 5 5 rfl cs xs HB.out HX.out hm (by omega) H1.out).mono ?_)
             rintro e w1 ⟨g', cs', rfl, hb1, hn1, hm1, ht1, hbel, hk⟩
             have HB1 := Lib.hid hb1
             have HT1 := Lib.hid ht1
             have HL1 := Lib.hid hbel
             have HK1 := Lib.hid hk
             have hm1' : cs'.length ≤ 9223372036854775807 := by unfold maxLen at hm1; omega
             clear hb1 ht1 hbel hk))
        | (go_at_call 62
           go_must (
             (refine (putMint32_calls _ g' xs.length _ _ u cs' HB1.out (by omega) (by omega) hm1 (by omega) (by omega)).mono ?_)
             rintro e w2 ⟨rfl, hb2, hg2, hs2⟩
             have HB2 := Lib.hid hb2
             have HG2 := Lib.hid hg2
             clear hb2 hg2 hs2)))
      go_ret
      exact ⟨app_wrote (news := bs (210 :: be u 4)) HW0.out hB hBw HL1.out HK1.out (by simpa [bs_length, be_length] using hn1) hm1 HT1.out HB2.out HG2.out, grownAt_wrote HL1.out HK1.out HG2.out⟩
    · by_cases u2 : u < -128
      · have e : encI u = 209 :: be u 2 := by unfold encI; rw [if_neg u0, if_neg u1, if_pos u2]
        rw [e]
        clear e
        have qa0 : decide ((-2147483648 : Int) ≤ u) = true := decide_eq_true (by omega)
        have qa1 : decide ((-32768 : Int) ≤ u) = true := decide_eq_true (by omega)
        have qa2 : decide ((-128 : Int) ≤ u) = false := decide_eq_false (by omega)
        have qa3 : decide ((-32 : Int) ≤ u) = false := decide_eq_false (by omega)
        have qa4 : decide ((0 : Int) ≤ u) = false := decide_eq_false (by omega)
        have qb0 : decide (u ≤ (127 : Int)) = true := decide_eq_true (by omega)
        have qb1 : decide (u ≤ (32767 : Int)) = true := decide_eq_true (by omega)
        have qb2 : decide (u ≤ (2147483647 : Int)) = true := decide_eq_true (by omega)
        go_enter Try.func40, Try.ntmps40
        go_wp2_with (first
          | (go_at_call 31
             go_must (
               (refine (ensure_int _ g 3 3 rfl cs xs HB.out HX.out hm (by omega) H1.out).mono ?_)
               rintro e w1 ⟨g', cs', rfl, hb1, hn1, hm1, ht1, hbel, hk⟩
               have HB1 := Lib.hid hb1
               have HT1 := Lib.hid ht1
               have HL1 := Lib.hid hbel
               have HK1 := Lib.hid hk
               have hm1' : cs'.length ≤ 9223372036854775807 := by unfold maxLen at hm1; omega
               clear hb1 ht1 hbel hk))
          | (go_at_call 61
             go_must (
               (refine (putMint16_calls _ g' xs.length _ _ u cs' HB1.out (by omega) (by omega) hm1 (by omega) (by omega)).mono ?_)
               rintro e w2 ⟨rfl, hb2, hg2, hs2⟩
               have HB2 := Lib.hid hb2
               have HG2 := Lib.hid hg2
               clear hb2 hg2 hs2)))
        go_ret
        exact ⟨app_wrote (news := bs (209 :: be u 2)) HW0.out hB hBw HL1.out HK1.out (by simpa [bs_length, be_length] using hn1) hm1 HT1.out HB2.out HG2.out, grownAt_wrote HL1.out HK1.out HG2.out⟩
      · by_cases u3 : u < -32
        · have e : encI u = 208 :: be u 1 := by unfold encI; rw [if_neg u0, if_neg u1, if_neg u2, if_pos u3]
          rw [e]
          clear e
          have qa0 : decide ((-2147483648 : Int) ≤ u) = true := decide_eq_true (by omega)
          have qa1 : decide ((-32768 : Int) ≤ u) = true := decide_eq_true (by omega)
          have qa2 : decide ((-128 : Int) ≤ u) = true := decide_eq_true (by omega)
          have qa3 : decide ((-32 : Int) ≤ u) = false := decide_eq_false (by omega)
          have qa4 : decide ((0 : Int) ≤ u) = false := decide_eq_false (by omega)
          have qb0 : decide (u ≤ (127 : Int)) = true := decide_eq_true (by omega)
          have qb1 : decide (u ≤ (32767 : Int)) = true := decide_eq_true (by omega)
          have qb2 : decide (u ≤ (2147483647 : Int)) = true := decide_eq_true (by omega)
          go_enter Try.func40, Try.ntmps40
          go_wp2_with (first
            | (go_at_call 31
               go_must (
                 (refine (ensure_int _ g 2 2 rfl cs xs HB.out HX.out hm (by omega) H1.out).mono ?_)
                 rintro e w1 ⟨g', cs', rfl, hb1, hn1, hm1, ht1, hbel, hk⟩
                 have HB1 := Lib.hid hb1
                 have HT1 := Lib.hid ht1
                 have HL1 := Lib.hid hbel
                 have HK1 := Lib.hid hk
                 have hm1' : cs'.length ≤ 9223372036854775807 := by unfold maxLen at hm1; omega
                 clear hb1 ht1 hbel hk))
            | (go_at_call 65
               go_must (
                 (refine (putMint8_calls _ g' xs.length _ _ u cs' HB1.out (by omega) (by omega) hm1 (by omega) (by omega)).mono ?_)
                 rintro e w2 ⟨rfl, hb2, hg2, hs2⟩
                 have HB2 := Lib.hid hb2
                 have HG2 := Lib.hid hg2
                 clear hb2 hg2 hs2)))
          go_ret
          exact ⟨app_wrote (news := bs (208 :: be u 1)) HW0.out hB hBw HL1.out HK1.out (by simpa [bs_length, be_length] using hn1) hm1 HT1.out HB2.out HG2.out, grownAt_wrote HL1.out HK1.out HG2.out⟩
        · by_cases u4 : u < 0
          · have e : encI u = [u + 256] := by unfold encI; rw [if_neg u0, if_neg u1, if_neg u2, if_neg u3, if_pos u4]
            rw [e]
            clear e
            have qa0 : decide ((-2147483648 : Int) ≤ u) = true := decide_eq_true (by omega)
            have qa1 : decide ((-32768 : Int) ≤ u) = true := decide_eq_true (by omega)
            have qa2 : decide ((-128 : Int) ≤ u) = true := decide_eq_true (by omega)
            have qa3 : decide ((-32 : Int) ≤ u) = true := decide_eq_true (by omega)
            have qa4 : decide ((0 : Int) ≤ u) = false := decide_eq_false (by omega)
            have qb0 : decide (u ≤ (127 : Int)) = true := decide_eq_true (by omega)
            have qb1 : decide (u ≤ (32767 : Int)) = true := decide_eq_true (by omega)
            have qb2 : decide (u ≤ (2147483647 : Int)) = true := decide_eq_true (by omega)
            go_enter Try.func40, Try.ntmps40
            go_wp2_with (first
              | (go_at_call 64; refine (wnfixint_calls _ u (by omega) (by omega)).mono ?_; rintro e w' ⟨rfl, rfl⟩)
              | (at_builtin
                 go_must (
                   (refine wpList_append_any _ rfl (.tmp 85) (.tmp 89) 22 rfl B 5 i0 _ 1 1 Try.underlying22 hi0 hz0 hz1 hz2 rfl (by omega) (.slice (some ⟨g, 0, none⟩) xs.length cs.length) xs.length xs rfl ?_ (w.heap.size + 1) _ 1 1 [.int .u8 (u + 256)] rfl (reads_one _ _ _) (by simp; rfl) (by simp only [maxLen]; omega) (by omega) (by simp; omega) ?_)
                   · exact (show _ from by
                       have ho := blk_own HB.out hB HN.out hm
                       rw [HX.out] at ho
                       exact ho.alloc _)
                   intro v1 w1 hown1 hg1 hat1)))
            go_ret
            have hne : v1 ≠ .slice none 0 0 := by
              rintro rfl
              rcases hat1 with h | h <;> simp [Value.ownBlock] at h
            have hown : w1.ownsRow B 5 1 v1 (xs ++ bs [u + 256]).length (xs ++ bs [u + 256]) := by simpa [bs] using hown1
            refine ⟨app_own hown hne (((HW0.out).alloc hBw _).grown hg1 (by simp; omega) (fun k hk => ?_)), grownAt_app hg1 hat1⟩
            simp [Value.ownBlock] at hk
            omega
          · by_cases u5 : u ≤ 127
            · have e : encI u = [u] := by unfold encI; rw [if_neg u0, if_neg u1, if_neg u2, if_neg u3, if_neg u4, if_pos u5]
              rw [e]
              clear e
              have qa0 : decide ((-2147483648 : Int) ≤ u) = true := decide_eq_true (by omega)
              have qa1 : decide ((-32768 : Int) ≤ u) = true := decide_eq_true (by omega)
              have qa2 : decide ((-128 : Int) ≤ u) = true := decide_eq_true (by omega)
              have qa3 : decide ((-32 : Int) ≤ u) = true := decide_eq_true (by omega)
              have qa4 : decide ((0 : Int) ≤ u) = true := decide_eq_true (by omega)
              have qb0 : decide (u ≤ (127 : Int)) = true := decide_eq_true (by omega)
              have qb1 : decide (u ≤ (32767 : Int)) = true := decide_eq_true (by omega)
              have qb2 : decide (u ≤ (2147483647 : Int)) = true := decide_eq_true (by omega)
              go_enter Try.func40, Try.ntmps40
              go_wp2_with (first
                | (go_at_call 60; refine (wfixint_calls _ u (by omega) (by omega)).mono ?_; rintro e w' ⟨rfl, rfl⟩)
                | (at_builtin
                   go_must (
                     (refine wpList_append_any _ rfl (.tmp 35) (.tmp 39) 22 rfl B 5 i0 _ 1 1 Try.underlying22 hi0 hz0 hz1 hz2 rfl (by omega) (.slice (some ⟨g, 0, none⟩) xs.length cs.length) xs.length xs rfl ?_ (w.heap.size + 1) _ 1 1 [.int .u8 (u)] rfl (reads_one _ _ _) (by simp; rfl) (by simp only [maxLen]; omega) (by omega) (by simp; omega) ?_)
                     · exact (show _ from by
                         have ho := blk_own HB.out hB HN.out hm
                         rw [HX.out] at ho
                         exact ho.alloc _)
                     intro v1 w1 hown1 hg1 hat1)))
              go_ret
              have hne : v1 ≠ .slice none 0 0 := by
                rintro rfl
                rcases hat1 with h | h <;> simp [Value.ownBlock] at h
              have hown : w1.ownsRow B 5 1 v1 (xs ++ bs [u]).length (xs ++ bs [u]) := by simpa [bs] using hown1
              refine ⟨app_own hown hne (((HW0.out).alloc hBw _).grown hg1 (by simp; omega) (fun k hk => ?_)), grownAt_app hg1 hat1⟩
              simp [Value.ownBlock] at hk
              omega
            · by_cases u6 : u ≤ 32767
              · have e : encI u = 209 :: be u 2 := by unfold encI; rw [if_neg u0, if_neg u1, if_neg u2, if_neg u3, if_neg u4, if_neg u5, if_pos u6]
                rw [e]
                clear e
                have qa0 : decide ((-2147483648 : Int) ≤ u) = true := decide_eq_true (by omega)
                have qa1 : decide ((-32768 : Int) ≤ u) = true := decide_eq_true (by omega)
                have qa2 : decide ((-128 : Int) ≤ u) = true := decide_eq_true (by omega)
                have qa3 : decide ((-32 : Int) ≤ u) = true := decide_eq_true (by omega)
                have qa4 : decide ((0 : Int) ≤ u) = true := decide_eq_true (by omega)
                have qb0 : decide (u ≤ (127 : Int)) = false := decide_eq_false (by omega)
                have qb1 : decide (u ≤ (32767 : Int)) = true := decide_eq_true (by omega)
                have qb2 : decide (u ≤ (2147483647 : Int)) = true := decide_eq_true (by omega)
                go_enter Try.func40, Try.ntmps40
                go_wp2_with (first
                  | (go_at_call 31
                     go_must (
                       (refine (ensure_int _ g 3 3 rfl cs xs HB.out HX.out hm (by omega) H1.out).mono ?_)
                       rintro e w1 ⟨g', cs', rfl, hb1, hn1, hm1, ht1, hbel, hk⟩
                       have HB1 := Lib.hid hb1
                       have HT1 := Lib.hid ht1
                       have HL1 := Lib.hid hbel
                       have HK1 := Lib.hid hk
                       have hm1' : cs'.length ≤ 9223372036854775807 := by unfold maxLen at hm1; omega
                       clear hb1 ht1 hbel hk))
                  | (go_at_call 61
                     go_must (
                       (refine (putMint16_calls _ g' xs.length _ _ u cs' HB1.out (by omega) (by omega) hm1 (by omega) (by omega)).mono ?_)
                       rintro e w2 ⟨rfl, hb2, hg2, hs2⟩
                       have HB2 := Lib.hid hb2
                       have HG2 := Lib.hid hg2
                       clear hb2 hg2 hs2)))
                go_ret
                exact ⟨app_wrote (news := bs (209 :: be u 2)) HW0.out hB hBw HL1.out HK1.out (by simpa [bs_length, be_length] using hn1) hm1 HT1.out HB2.out HG2.out, grownAt_wrote HL1.out HK1.out HG2.out⟩
              · by_cases u7 : u ≤ 2147483647
                · have e : encI u = 210 :: be u 4 := by unfold encI; rw [if_neg u0, if_neg u1, if_neg u2, if_neg u3, if_neg u4, if_neg u5, if_neg u6, if_pos u7]
                  rw [e]
                  clear e
                  have qa0 : decide ((-2147483648 : Int) ≤ u) = true := decide_eq_true (by omega)
                  have qa1 : decide ((-32768 : Int) ≤ u) = true := decide_eq_true (by omega)
                  have qa2 : decide ((-128 : Int) ≤ u) = true := decide_eq_true (by omega)
                  have qa3 : decide ((-32 : Int) ≤ u) = true := decide_eq_true (by omega)
                  have qa4 : decide ((0 : Int) ≤ u) = true := decide_eq_true (by omega)
                  have qb0 : decide (u ≤ (127 : Int)) = false := decide_eq_false (by omega)
                  have qb1 : decide (u ≤ (32767 : Int)) = false := decide_eq_false (by omega)
                  have qb2 : decide (u ≤ (2147483647 : Int)) = true := decide_eq_true (by omega)
                  go_enter Try.func40, Try.ntmps40
                  go_wp2_with (first
                    | (go_at_call 31
                       go_must (
                         (refine (ensure_int _ g 5 5 rfl cs xs HB.out HX.out hm (by omega) H1.out).mono ?_)
                         rintro e w1 ⟨g', cs', rfl, hb1, hn1, hm1, ht1, hbel, hk⟩
                         have HB1 := Lib.hid hb1
                         have HT1 := Lib.hid ht1
                         have HL1 := Lib.hid hbel
                         have HK1 := Lib.hid hk
                         have hm1' : cs'.length ≤ 9223372036854775807 := by unfold maxLen at hm1; omega
                         clear hb1 ht1 hbel hk))
                    | (go_at_call 62
                       go_must (
                         (refine (putMint32_calls _ g' xs.length _ _ u cs' HB1.out (by omega) (by omega) hm1 (by omega) (by omega)).mono ?_)
                         rintro e w2 ⟨rfl, hb2, hg2, hs2⟩
                         have HB2 := Lib.hid hb2
                         have HG2 := Lib.hid hg2
                         clear hb2 hg2 hs2)))
                  go_ret
                  exact ⟨app_wrote (news := bs (210 :: be u 4)) HW0.out hB hBw HL1.out HK1.out (by simpa [bs_length, be_length] using hn1) hm1 HT1.out HB2.out HG2.out, grownAt_wrote HL1.out HK1.out HG2.out⟩
                · have e : encI u = 211 :: be u 8 := by unfold encI; rw [if_neg u0, if_neg u1, if_neg u2, if_neg u3, if_neg u4, if_neg u5, if_neg u6, if_neg u7]
                  rw [e]
                  clear e
                  have qa0 : decide ((-2147483648 : Int) ≤ u) = true := decide_eq_true (by omega)
                  have qa1 : decide ((-32768 : Int) ≤ u) = true := decide_eq_true (by omega)
                  have qa2 : decide ((-128 : Int) ≤ u) = true := decide_eq_true (by omega)
                  have qa3 : decide ((-32 : Int) ≤ u) = true := decide_eq_true (by omega)
                  have qa4 : decide ((0 : Int) ≤ u) = true := decide_eq_true (by omega)
                  have qb0 : decide (u ≤ (127 : Int)) = false := decide_eq_false (by omega)
                  have qb1 : decide (u ≤ (32767 : Int)) = false := decide_eq_false (by omega)
                  have qb2 : decide (u ≤ (2147483647 : Int)) = false := decide_eq_false (by omega)
                  go_enter Try.func40, Try.ntmps40
                  go_wp2_with (first
                    | (go_at_call 31
                       go_must (
                         (refine (ensure_int _ g 9 9 rfl cs xs HB.out HX.out hm (by omega) H1.out).mono ?_)
                         rintro e w1 ⟨g', cs', rfl, hb1, hn1, hm1, ht1, hbel, hk⟩
                         have HB1 := Lib.hid hb1
                         have HT1 := Lib.hid ht1
                         have HL1 := Lib.hid hbel
                         have HK1 := Lib.hid hk
                         have hm1' : cs'.length ≤ 9223372036854775807 := by unfold maxLen at hm1; omega
                         clear hb1 ht1 hbel hk))
                    | (go_at_call 63
                       go_must (
                         (refine (putMint64_calls _ g' xs.length _ _ u cs' HB1.out (by omega) (by omega) hm1 (by omega) (by omega)).mono ?_)
                         rintro e w2 ⟨rfl, hb2, hg2, hs2⟩
                         have HB2 := Lib.hid hb2
                         have HG2 := Lib.hid hg2
                         clear hb2 hg2 hs2)))
                  go_ret
                  exact ⟨app_wrote (news := bs (211 :: be u 8)) HW0.out hB hBw HL1.out HK1.out (by simpa [bs_length, be_length] using hn1) hm1 HT1.out HB2.out HG2.out, grownAt_wrote HL1.out HK1.out HG2.out⟩

theorem grU64 (w0 w : World) (B g : Nat) (u : Int) (cs : List Value) (l : List Int) (h : Row8 w0 w B g cs l) (hs : l.length ≤ 1000000) (h0 : 0 ≤ u) (hu : u ≤ 18446744073709551615) :
    Calls Try.prog 51 #[.slice (some ⟨g, 0, none⟩) l.length cs.length, .int .u64 u] w (fun e w' => AppB w0 B (l ++ encU u) e w' ∧ GrownAt w g e w') := by
  obtain ⟨h1, h2, h3, h4, h5, h6, h7⟩ := h
  have e := AppendUint64_g w0 w B g u cs (bs l) h1 h2 h3 h4 (by rw [bs_length]; exact h7) h6 (by rw [bs_length]; omega) (bs_one l) h0 hu
  rw [bs_length] at e
  exact e.mono fun _ _ h => ⟨appB2 h.1, h.2⟩
theorem grI64 (w0 w : World) (B g : Nat) (u : Int) (cs : List Value) (l : List Int) (h : Row8 w0 w B g cs l) (hs : l.length ≤ 1000000) (h0 : -9223372036854775808 ≤ u) (hu : u ≤ 9223372036854775807) :
    Calls Try.prog 40 #[.slice (some ⟨g, 0, none⟩) l.length cs.length, .int .i64 u] w (fun e w' => AppB w0 B (l ++ encI u) e w' ∧ GrownAt w g e w') := by
  obtain ⟨h1, h2, h3, h4, h5, h6, h7⟩ := h
  have e := AppendInt64_g w0 w B g u cs (bs l) h1 h2 h3 h4 (by rw [bs_length]; exact h7) h6 (by rw [bs_length]; omega) (bs_one l) h0 hu
  rw [bs_length] at e
  exact e.mono fun _ _ h => ⟨appB2 h.1, h.2⟩

set_option maxHeartbeats 4000000 in
set_option maxRecDepth 100000 in
theorem grU8 (w0 w : World) (B g : Nat) (u : Int) (cs : List Value) (l : List Int) (h : Row8 w0 w B g cs l) (hs : l.length ≤ 1000000) (h0 : 0 ≤ u) (hu : u ≤ 255) :
    Calls Try.prog 36 #[.slice (some ⟨g, 0, none⟩) l.length cs.length, .int .u8 u] w (fun e w' => AppB w0 B (l ++ encU u) e w' ∧ GrownAt w g e w') := by
  have hc := grU64 w0 w B g u cs l h hs h0 (by omega)
  have HC := Lib.hid hc
  have hw64 : IntKind.u64.wrap u = u := by rw [IntKind.wrap_u64]; omega
  clear hc h
  go_enter Try.func36, Try.ntmps36
  go_wp2_with (first
    | (go_at_call 51
       go_must (
         (refine HC.out.mono ?_)
         rintro e w2 ⟨⟨g2, cs2, rfl, hb2, hn2, hm2, ht2, hB2, hbel2⟩, hgr2⟩
         have HB2 := Lib.hid hb2
         have HT2 := Lib.hid ht2
         have HBEL2 := Lib.hid hbel2
         have HN2 := Lib.hid hn2
         rw [List.length_append] at hgr2
         have HGR2 := Lib.hid hgr2
         clear hb2 ht2 hbel2 hn2 hgr2)))
  go_ret
  exact ⟨⟨g2, cs2, by first | rfl | (rw [List.length_append]; rfl), HB2.out, HN2.out, hm2, HT2.out, hB2, HBEL2.out⟩, HGR2.out⟩

set_option maxHeartbeats 4000000 in
set_option maxRecDepth 100000 in
theorem grByte (w0 w : World) (B g : Nat) (u : Int) (cs : List Value) (l : List Int) (h : Row8 w0 w B g cs l) (hs : l.length ≤ 1000000) (h0 : 0 ≤ u) (hu : u ≤ 255) :
    Calls Try.prog 22 #[.slice (some ⟨g, 0, none⟩) l.length cs.length, .int .u8 u] w (fun e w' => AppB w0 B (l ++ encU u) e w' ∧ GrownAt w g e w') := by
  have hc := grU8 w0 w B g u cs l h hs h0 hu
  have HC := Lib.hid hc
  have hw64 : IntKind.u64.wrap u = u := by rw [IntKind.wrap_u64]; omega
  clear hc h
  go_enter Try.func22, Try.ntmps22
  go_wp2_with (first
    | (go_at_call 36
       go_must (
         (refine HC.out.mono ?_)
         rintro e w2 ⟨⟨g2, cs2, rfl, hb2, hn2, hm2, ht2, hB2, hbel2⟩, hgr2⟩
         have HB2 := Lib.hid hb2
         have HT2 := Lib.hid ht2
         have HBEL2 := Lib.hid hbel2
         have HN2 := Lib.hid hn2
         rw [List.length_append] at hgr2
         have HGR2 := Lib.hid hgr2
         clear hb2 ht2 hbel2 hn2 hgr2)))
  go_ret
  exact ⟨⟨g2, cs2, by first | rfl | (rw [List.length_append]; rfl), HB2.out, HN2.out, hm2, HT2.out, hB2, HBEL2.out⟩, HGR2.out⟩

set_option maxHeartbeats 4000000 in
set_option maxRecDepth 100000 in
theorem grI32 (w0 w : World) (B g : Nat) (u : Int) (cs : List Value) (l : List Int) (h : Row8 w0 w B g cs l) (hs : l.length ≤ 1000000) (h0 : -2147483648 ≤ u) (hu : u ≤ 2147483647) :
    Calls Try.prog 29 #[.slice (some ⟨g, 0, none⟩) l.length cs.length, .int .i32 u] w (fun e w' => AppB w0 B (l ++ encI u) e w' ∧ GrownAt w g e w') := by
  have hc := grI64 w0 w B g u cs l h hs (by omega) (by omega)
  have HC := Lib.hid hc
  have hw64 : IntKind.i64.wrap u = u := by rw [IntKind.wrap_i64]; omega
  clear hc h
  go_enter Try.func29, Try.ntmps29
  go_wp2_with (first
    | (go_at_call 40
       go_must (
         (refine HC.out.mono ?_)
         rintro e w2 ⟨⟨g2, cs2, rfl, hb2, hn2, hm2, ht2, hB2, hbel2⟩, hgr2⟩
         have HB2 := Lib.hid hb2
         have HT2 := Lib.hid ht2
         have HBEL2 := Lib.hid hbel2
         have HN2 := Lib.hid hn2
         rw [List.length_append] at hgr2
         have HGR2 := Lib.hid hgr2
         clear hb2 ht2 hbel2 hn2 hgr2)))
  go_ret
  exact ⟨⟨g2, cs2, by first | rfl | (rw [List.length_append]; rfl), HB2.out, HN2.out, hm2, HT2.out, hB2, HBEL2.out⟩, HGR2.out⟩
end Go.Proofs.Ytfhaddnacdjpoaa
