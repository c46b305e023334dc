/- spec.PutPack over a tree, kind by kind. PRINTED by wip/genpl.py. -/
import Derived.Test.YtfhaddnacdjpoaaDoorPh
import Derived.Test.YtfhaddnacdjpoaaDoorPk
namespace Go.Proofs.YtfhaddnacdjpoaaDoor
open Go.RowKit
set_option linter.unusedVariables false

theorem grownP_fresh {W w3 w4 : World} {gf : Nat} {row : Option Nat} (h : W.grownBy w3 (some gf)) (hg : w3.grownBy w4 row) (hr : ∀ j, row = some j → W.heap.size ≤ j) : W.grownBy w4 (some gf) :=
  ⟨hg.os.trans h.os, hg.tape.trans h.tape, hg.output.trans h.output, Nat.le_trans h.size hg.size, fun k hk hn => (hg.block k (Nat.lt_of_lt_of_le hk h.size) (fun e => by have := hr k e.symm; omega)).trans (h.block k hk hn)⟩
theorem grownP_drew {W w : World} {row : Option Nat} (h : W.grownBy w row) : W.grownBy w.drew row := ⟨h.os, h.tape, h.output, h.size, h.block⟩
/-- The head of a value: one byte with the length in it, or a form. -/
def HeadX (n fixed under : Int) (fs : List (Int × Nat)) (enc : List Int) : Prop := (0 ≤ fixed ∧ n < under ∧ enc = [fixed + n]) ∨ HeadF n fs enc
theorem putHead_any (w : World) (gf c n : Nat) (st fixed under : Int) (sh : Bool) (A : Option Addr) (fs : List (Int × Nat)) (hb : Blk w gf 34 [.int .u64 st, .bool sh]) (hn : n ≤ 4294967295)
    (h : WantsF w w.heap.size A fs) (hl : fs.length ≤ 8) (hs : ∀ p ∈ fs, 0 ≤ p.1 ∧ p.1 ≤ 255 ∧ p.2 ≤ 8) (hf : fixed < 0 ∨ (0 ≤ fixed ∧ fixed ≤ 160 ∧ under ≤ 32 ∧ ∀ m : Nat, (m : Int) < under → bits .or .i64 fixed (m : Int) = fixed + m)) (hok : 0 < (fs.filter (okF n)).length) :
    Calls Tryd.prog 23 #[.pointer (some ⟨gf, 0, none⟩), .int .i64 n, .int .i64 fixed, .int .i64 under, .slice A fs.length c] w (PutH gf sh (HeadX n fixed under fs) w) := by
  by_cases hp : fixed < 0
  · exact (putHead_plain w gf c n st fixed under sh A fs hb hn h hl hs (.inl hp) hok).mono fun _ _ ⟨enc, A', c', st', he, hh, r⟩ => ⟨enc, A', c', st', he, .inr hh, r⟩
  · obtain ⟨h0, h1, h2, h3⟩ := hf.resolve_left hp
    by_cases hu : (n : Int) < under
    · exact (putHead_fix w gf c n st fixed under sh A fs hb (by omega) h hl hs h0 h1 hu (h3 n hu) hok).mono fun _ _ ⟨enc, A', c', st', he, hh, r⟩ => ⟨enc, A', c', st', he, hh.elim (fun e => .inl ⟨h0, hu, e⟩) .inr, r⟩
    · exact (putHead_plain w gf c n st fixed under sh A fs hb hn h hl hs (.inr ⟨h0, by omega⟩) hok).mono fun _ _ ⟨enc, A', c', st', he, hh, r⟩ => ⟨enc, A', c', st', he, .inr hh, r⟩
theorem headX_len {n fixed under : Int} {fs : List (Int × Nat)} {enc : List Int} (h : HeadX n fixed under fs enc) (hm : ∀ p ∈ fs, p.2 ≤ 4) : 0 < enc.length ∧ enc.length ≤ 5 := by
  rcases h with ⟨_, _, rfl⟩ | ⟨p, hp, _, rfl⟩
  · simp
  · rw [List.length_cons, be_length]
    have := hm p hp
    omega
theorem orP160 (m : Nat) (h : (m : Int) < 32) : bits .or .i64 160 (m : Int) = 160 + m := by
  rw [or_i64 5 160 m (by omega) (by omega) (by have : (2 : Int) ^ 5 = 32 := by decide
                                               omega) (by decide), IntKind.wrap_i64]
  omega
theorem orP144 (m : Nat) (h : (m : Int) < 16) : bits .or .i64 144 (m : Int) = 144 + m := by
  rw [or_i64 4 144 m (by omega) (by omega) (by have : (2 : Int) ^ 4 = 16 := by decide
                                               omega) (by decide), IntKind.wrap_i64]
  omega
theorem orP128 (m : Nat) (h : (m : Int) < 16) : bits .or .i64 128 (m : Int) = 128 + m := by
  rw [or_i64 4 128 m (by omega) (by omega) (by have : (2 : Int) ^ 4 = 16 := by decide
                                               omega) (by decide), IntKind.wrap_i64]
  omega
def OtherB (k b : Int) : Prop := (k = 7 → 196 ≤ b ∧ b ≤ 198) ∧ (k = 8 → (144 ≤ b ∧ b ≤ 159) ∨ b = 220 ∨ b = 221) ∧ (k = 9 → (128 ≤ b ∧ b ≤ 143) ∨ b = 222 ∨ b = 223) ∧ (k = 10 → (199 ≤ b ∧ b ≤ 201) ∨ (212 ≤ b ∧ b ≤ 216))
/-- How the bytes of a value begin; numbers and texts whole. -/
def HeadOf (T : PT) (enc : List Int) : Prop :=
  (T.k = 0 → enc = [192]) ∧ (T.k = 1 → enc = [194 + T.u]) ∧ (T.k = 2 → IntF (wrap64 T.u) enc) ∧ (T.k = 3 → IntF T.u enc) ∧ (T.k = 4 → enc = 202 :: be T.u 4) ∧ (T.k = 5 → enc = 203 :: be T.u 8) ∧
  (T.k = 6 → ∃ hd, HeadX T.s.size 160 32 [(217, 1), (218, 2), (219, 4)] hd ∧ enc = hd ++ numsS T.s) ∧ (7 ≤ T.k → ∃ b r, enc = b :: r ∧ OtherB T.k b)
/-- What PutPack writes for a value. -/
def FP (T : PT) (enc : List Int) : Prop := HeadOf T enc ∧ 0 < enc.length ∧ enc.length ≤ 140000 * T.cnt
theorem cnt_pos (T : PT) : 1 ≤ T.cnt := by rw [PT.cnt_eq]; omega

set_option maxHeartbeats 4000000 in
set_option maxRecDepth 100000 in
theorem PP_nil (W : World) (gf : Nat) (st u x : Int) (sh : Bool) (s : ByteArray) (n c : Nat) (A : Option Addr)  (hb : Blk W gf 34 [.int .u64 st, .bool sh]) :
    Calls Tryd.prog 7 #[.agg #[.int .i64 0, .int .u64 u, .string s, .int .i64 x, .slice A n c], .pointer (some ⟨gf, 0, none⟩)] W (PutH gf sh (fun enc => enc = [192]) W) := by
  have HB := Lib.hid hb
  clear hb
  go_enter Tryd.func7, Tryd.ntmps7
  go_wp2
  go_ret
  refine ⟨[192], _, 1, st, rfl, rfl, ?_, (HB.out.alloc _).alloc _, grownP_trans (World.grownBy_alloc _ _ _) (World.grownBy_alloc _ _ _)⟩
  have hb2 := Blk.new (W.alloc (.cells #[.int .i64 0, .int .u64 u, .string s, .int .i64 x, .slice A n c] 30)) 5 [.int .u8 (192)]
  rw [show (W.alloc (.cells #[.int .i64 0, .int .u64 u, .string s, .int .i64 x, .slice A n c] 30)).heap.size = W.heap.size + 1 by simp] at hb2
  exact blk_own (n := 1) hb2 (by omega) (by simp) (by simp [maxLen])

set_option maxHeartbeats 4000000 in
set_option maxRecDepth 100000 in
theorem PP_bool (W : World) (gf : Nat) (st u x : Int) (sh : Bool) (s : ByteArray) (n c : Nat) (A : Option Addr) (h0 : 0 ≤ u) (h1 : u ≤ 1) (hb : Blk W gf 34 [.int .u64 st, .bool sh]) :
    Calls Tryd.prog 7 #[.agg #[.int .i64 1, .int .u64 u, .string s, .int .i64 x, .slice A n c], .pointer (some ⟨gf, 0, none⟩)] W (PutH gf sh (fun enc => enc = [194 + u]) W) := by
  have HB := Lib.hid hb
  clear hb
  have hw : IntKind.u8.wrap (194 + u) = 194 + u := by rw [IntKind.wrap_u8]; omega
  have hw2 : IntKind.u64.wrap (194 + u) = 194 + u := by rw [IntKind.wrap_u64]; omega
  go_enter Tryd.func7, Tryd.ntmps7
  go_wp2
  go_ret
  refine ⟨[194 + u], _, 1, st, rfl, rfl, ?_, (HB.out.alloc _).alloc _, grownP_trans (World.grownBy_alloc _ _ _) (World.grownBy_alloc _ _ _)⟩
  have hb2 := Blk.new (W.alloc (.cells #[.int .i64 1, .int .u64 u, .string s, .int .i64 x, .slice A n c] 30)) 5 [.int .u8 (194 + u)]
  rw [show (W.alloc (.cells #[.int .i64 1, .int .u64 u, .string s, .int .i64 x, .slice A n c] 30)).heap.size = W.heap.size + 1 by simp] at hb2
  exact blk_own (n := 1) hb2 (by omega) (by simp) (by simp [maxLen])

set_option maxHeartbeats 4000000 in
set_option maxRecDepth 100000 in
theorem PP_neg (W : World) (gf : Nat) (st u x : Int) (sh : Bool) (s : ByteArray) (n c : Nat) (A : Option Addr) (nn : Int) (hU : u = nn + 18446744073709551616) (h0 : -9223372036854775808 ≤ nn) (h1 : nn < 0) (hb : Blk W gf 34 [.int .u64 st, .bool sh]) :
    Calls Tryd.prog 7 #[.agg #[.int .i64 2, .int .u64 u, .string s, .int .i64 x, .slice A n c], .pointer (some ⟨gf, 0, none⟩)] W (PutH gf sh (IntF nn) W) := by
  obtain ⟨w1, hw1⟩ : ∃ w1, w1 = W.alloc (.cells #[.int .i64 2, .int .u64 u, .string s, .int .i64 x, .slice A n c] 30) := ⟨_, rfl⟩
  have hz : w1.heap.size = W.heap.size + 1 := by rw [hw1]; simp
  have hb1 : Blk w1 gf 34 [.int .u64 st, .bool sh] := by rw [hw1]; exact hb.alloc _
  have hp1 : Blk w1 W.heap.size 30 [.int .i64 2, .int .u64 u, .string s, .int .i64 x, .slice A n c] := by rw [hw1]; exact Blk.new W _ [_, _, _, _, _]
  have hg0 : W.grownBy w1 (some gf) := by rw [hw1]; exact World.grownBy_alloc _ _ _
  have hp : Calls Tryd.prog 21 #[.pointer (some ⟨gf, 0, none⟩), .int .u64 u, .bool true] w1 (PutH gf sh (IntF nn) w1) := by
    rw [hU]
    exact putInt_neg w1 gf st nn sh hb1 h0 h1
  rw [hw1] at hp
  have HP := Lib.hid hp
  have HW1 := Lib.hid hw1
  have HG0 := Lib.hid hg0
  clear hb hb1 hp hw1 hg0 hU hp1
  go_enter Tryd.func7, Tryd.ntmps7
  go_wp2_with (
    (go_at_call 21)
    go_must (
      (refine HP.out.mono ?_)
      rintro e w2 ⟨enc, A2, c2, st2, rfl, hf2, hown2, hb2, hg2⟩
      rw [← HW1.out] at hg2 hown2
      have HF2 := Lib.hid hf2
      have HO2 := Lib.hid hown2
      have HB2 := Lib.hid hb2
      have HG2 := Lib.hid hg2
      clear hf2 hown2 hb2 hg2))
  go_ret
  exact ⟨enc, A2, c2, st2, rfl, HF2.out, own_lower HO2.out (by omega), HB2.out, grownP_trans HG0.out HG2.out⟩

set_option maxHeartbeats 4000000 in
set_option maxRecDepth 100000 in
theorem PP_pos (W : World) (gf : Nat) (st u x : Int) (sh : Bool) (s : ByteArray) (n c : Nat) (A : Option Addr) (nn : Int) (hU : u = nn) (h0 : 0 ≤ nn) (h1 : nn < 9223372036854775808) (hb : Blk W gf 34 [.int .u64 st, .bool sh]) :
    Calls Tryd.prog 7 #[.agg #[.int .i64 2, .int .u64 u, .string s, .int .i64 x, .slice A n c], .pointer (some ⟨gf, 0, none⟩)] W (PutH gf sh (IntF nn) W) := by
  obtain ⟨w1, hw1⟩ : ∃ w1, w1 = W.alloc (.cells #[.int .i64 2, .int .u64 u, .string s, .int .i64 x, .slice A n c] 30) := ⟨_, rfl⟩
  have hz : w1.heap.size = W.heap.size + 1 := by rw [hw1]; simp
  have hb1 : Blk w1 gf 34 [.int .u64 st, .bool sh] := by rw [hw1]; exact hb.alloc _
  have hp1 : Blk w1 W.heap.size 30 [.int .i64 2, .int .u64 u, .string s, .int .i64 x, .slice A n c] := by rw [hw1]; exact Blk.new W _ [_, _, _, _, _]
  have hg0 : W.grownBy w1 (some gf) := by rw [hw1]; exact World.grownBy_alloc _ _ _
  have hp : Calls Tryd.prog 21 #[.pointer (some ⟨gf, 0, none⟩), .int .u64 u, .bool true] w1 (PutH gf sh (IntF nn) w1) := by
    rw [hU]
    exact putInt_pos w1 gf st nn sh true hb1 h0 (by omega) (fun _ => h1)
  rw [hw1] at hp
  have HP := Lib.hid hp
  have HW1 := Lib.hid hw1
  have HG0 := Lib.hid hg0
  clear hb hb1 hp hw1 hg0 hU hp1
  go_enter Tryd.func7, Tryd.ntmps7
  go_wp2_with (
    (go_at_call 21)
    go_must (
      (refine HP.out.mono ?_)
      rintro e w2 ⟨enc, A2, c2, st2, rfl, hf2, hown2, hb2, hg2⟩
      rw [← HW1.out] at hg2 hown2
      have HF2 := Lib.hid hf2
      have HO2 := Lib.hid hown2
      have HB2 := Lib.hid hb2
      have HG2 := Lib.hid hg2
      clear hf2 hown2 hb2 hg2))
  go_ret
  exact ⟨enc, A2, c2, st2, rfl, HF2.out, own_lower HO2.out (by omega), HB2.out, grownP_trans HG0.out HG2.out⟩

set_option maxHeartbeats 4000000 in
set_option maxRecDepth 100000 in
theorem PP_uint (W : World) (gf : Nat) (st u x : Int) (sh : Bool) (s : ByteArray) (n c : Nat) (A : Option Addr) (nn : Int) (hU : u = nn) (h0 : 0 ≤ nn) (h1 : nn ≤ 18446744073709551615) (hb : Blk W gf 34 [.int .u64 st, .bool sh]) :
    Calls Tryd.prog 7 #[.agg #[.int .i64 3, .int .u64 u, .string s, .int .i64 x, .slice A n c], .pointer (some ⟨gf, 0, none⟩)] W (PutH gf sh (IntF nn) W) := by
  obtain ⟨w1, hw1⟩ : ∃ w1, w1 = W.alloc (.cells #[.int .i64 3, .int .u64 u, .string s, .int .i64 x, .slice A n c] 30) := ⟨_, rfl⟩
  have hz : w1.heap.size = W.heap.size + 1 := by rw [hw1]; simp
  have hb1 : Blk w1 gf 34 [.int .u64 st, .bool sh] := by rw [hw1]; exact hb.alloc _
  have hp1 : Blk w1 W.heap.size 30 [.int .i64 3, .int .u64 u, .string s, .int .i64 x, .slice A n c] := by rw [hw1]; exact Blk.new W _ [_, _, _, _, _]
  have hg0 : W.grownBy w1 (some gf) := by rw [hw1]; exact World.grownBy_alloc _ _ _
  have hp : Calls Tryd.prog 21 #[.pointer (some ⟨gf, 0, none⟩), .int .u64 u, .bool false] w1 (PutH gf sh (IntF nn) w1) := by
    rw [hU]
    exact putInt_pos w1 gf st nn sh false hb1 h0 h1 (by simp)
  rw [hw1] at hp
  have HP := Lib.hid hp
  have HW1 := Lib.hid hw1
  have HG0 := Lib.hid hg0
  clear hb hb1 hp hw1 hg0 hU hp1
  go_enter Tryd.func7, Tryd.ntmps7
  go_wp2_with (
    (go_at_call 21)
    go_must (
      (refine HP.out.mono ?_)
      rintro e w2 ⟨enc, A2, c2, st2, rfl, hf2, hown2, hb2, hg2⟩
      rw [← HW1.out] at hg2 hown2
      have HF2 := Lib.hid hf2
      have HO2 := Lib.hid hown2
      have HB2 := Lib.hid hb2
      have HG2 := Lib.hid hg2
      clear hf2 hown2 hb2 hg2))
  go_ret
  exact ⟨enc, A2, c2, st2, rfl, HF2.out, own_lower HO2.out (by omega), HB2.out, grownP_trans HG0.out HG2.out⟩

set_option maxHeartbeats 4000000 in
set_option maxRecDepth 100000 in
theorem PP_f32 (W : World) (gf : Nat) (st u x : Int) (sh : Bool) (s : ByteArray) (n c : Nat) (A : Option Addr) (h0 : 0 ≤ u) (h1 : u ≤ 18446744073709551615) (hb : Blk W gf 34 [.int .u64 st, .bool sh]) :
    Calls Tryd.prog 7 #[.agg #[.int .i64 4, .int .u64 u, .string s, .int .i64 x, .slice A n c], .pointer (some ⟨gf, 0, none⟩)] W (PutH gf sh (fun enc => enc = 202 :: be u 4) W) := by
  obtain ⟨w1, hw1⟩ : ∃ w1, w1 = W.alloc (.cells #[.int .i64 4, .int .u64 u, .string s, .int .i64 x, .slice A n c] 30) := ⟨_, rfl⟩
  have hz : w1.heap.size = W.heap.size + 1 := by rw [hw1]; simp
  have hb1 : Blk w1 gf 34 [.int .u64 st, .bool sh] := by rw [hw1]; exact hb.alloc _
  have hp1 : Blk w1 W.heap.size 30 [.int .i64 4, .int .u64 u, .string s, .int .i64 x, .slice A n c] := by rw [hw1]; exact Blk.new W _ [_, _, _, _, _]
  have hg0 : W.grownBy w1 (some gf) := by rw [hw1]; exact World.grownBy_alloc _ _ _
  have hp := headed_calls w1 u 202 4 h0 h1 (by omega) (by omega) (by omega)
  rw [hw1] at hp
  have HP := Lib.hid hp
  have HW1 := Lib.hid hw1
  have HG0 := Lib.hid hg0
  have HB1 := Lib.hid hb1
  clear hb hb1 hp hw1 hg0 hp1
  go_enter Tryd.func7, Tryd.ntmps7
  go_wp2_with (
    (go_at_call 22)
    go_must (
      (refine HP.out.mono ?_)
      rintro e w2 ⟨A2, c2, rfl, hown2, hbel2⟩
      rw [← HW1.out] at hown2 hbel2
      have HO2 := Lib.hid hown2
      have HBEL2 := Lib.hid hbel2
      clear hown2 hbel2))
  go_ret
  exact ⟨202 :: be u 4, A2, c2, st, rfl, rfl, own_lower HO2.out (by omega), HB1.out.below HBEL2.out HB1.out.lt, grownP_trans HG0.out (belowP_grown HBEL2.out _)⟩

set_option maxHeartbeats 4000000 in
set_option maxRecDepth 100000 in
theorem PP_f64 (W : World) (gf : Nat) (st u x : Int) (sh : Bool) (s : ByteArray) (n c : Nat) (A : Option Addr) (h0 : 0 ≤ u) (h1 : u ≤ 18446744073709551615) (hb : Blk W gf 34 [.int .u64 st, .bool sh]) :
    Calls Tryd.prog 7 #[.agg #[.int .i64 5, .int .u64 u, .string s, .int .i64 x, .slice A n c], .pointer (some ⟨gf, 0, none⟩)] W (PutH gf sh (fun enc => enc = 203 :: be u 8) W) := by
  obtain ⟨w1, hw1⟩ : ∃ w1, w1 = W.alloc (.cells #[.int .i64 5, .int .u64 u, .string s, .int .i64 x, .slice A n c] 30) := ⟨_, rfl⟩
  have hz : w1.heap.size = W.heap.size + 1 := by rw [hw1]; simp
  have hb1 : Blk w1 gf 34 [.int .u64 st, .bool sh] := by rw [hw1]; exact hb.alloc _
  have hp1 : Blk w1 W.heap.size 30 [.int .i64 5, .int .u64 u, .string s, .int .i64 x, .slice A n c] := by rw [hw1]; exact Blk.new W _ [_, _, _, _, _]
  have hg0 : W.grownBy w1 (some gf) := by rw [hw1]; exact World.grownBy_alloc _ _ _
  have hp := headed_calls w1 u 203 8 h0 h1 (by omega) (by omega) (by omega)
  rw [hw1] at hp
  have HP := Lib.hid hp
  have HW1 := Lib.hid hw1
  have HG0 := Lib.hid hg0
  have HB1 := Lib.hid hb1
  clear hb hb1 hp hw1 hg0 hp1
  go_enter Tryd.func7, Tryd.ntmps7
  go_wp2_with (
    (go_at_call 22)
    go_must (
      (refine HP.out.mono ?_)
      rintro e w2 ⟨A2, c2, rfl, hown2, hbel2⟩
      rw [← HW1.out] at hown2 hbel2
      have HO2 := Lib.hid hown2
      have HBEL2 := Lib.hid hbel2
      clear hown2 hbel2))
  go_ret
  exact ⟨203 :: be u 8, A2, c2, st, rfl, rfl, own_lower HO2.out (by omega), HB1.out.below HBEL2.out HB1.out.lt, grownP_trans HG0.out (belowP_grown HBEL2.out _)⟩

set_option maxHeartbeats 4000000 in
set_option maxRecDepth 100000 in
theorem PP_text (W : World) (gf : Nat) (st u x : Int) (sh : Bool) (s : ByteArray) (n c : Nat) (A : Option Addr) (hs : s.size ≤ 131072) (hb : Blk W gf 34 [.int .u64 st, .bool sh]) :
    Calls Tryd.prog 7 #[.agg #[.int .i64 6, .int .u64 u, .string s, .int .i64 x, .slice A n c], .pointer (some ⟨gf, 0, none⟩)] W (PutH gf sh (fun enc => ∃ hd, HeadX s.size 160 32 [(217, 1), (218, 2), (219, 4)] hd ∧ enc = hd ++ numsS s) W) := by
  obtain ⟨w1, hw1⟩ : ∃ w1, w1 = W.alloc (.cells #[.int .i64 6, .int .u64 u, .string s, .int .i64 x, .slice A n c] 30) := ⟨_, rfl⟩
  have hz : w1.heap.size = W.heap.size + 1 := by rw [hw1]; simp
  have hb1 : Blk w1 gf 34 [.int .u64 st, .bool sh] := by rw [hw1]; exact hb.alloc _
  have hp1 : Blk w1 W.heap.size 30 [.int .i64 6, .int .u64 u, .string s, .int .i64 x, .slice A n c] := by rw [hw1]; exact Blk.new W _ [_, _, _, _, _]
  have hg0 : W.grownBy w1 (some gf) := by rw [hw1]; exact World.grownBy_alloc _ _ _
  have hok : 0 < (([(217, 1), (218, 2), (219, 4)] : List (Int × Nat)).filter (okF ((s.size : Nat) : Int))).length := by
    apply List.length_pos_of_mem (a := (219, 4))
    refine List.mem_filter.2 ⟨by simp, ?_⟩
    simp only [okF, Bool.or_eq_true, decide_eq_true_eq]
    right
    have : (2 : Int) ^ (8 * 4) = 4294967296 := by decide
    rw [this]
    omega
  have q2 := hp1.cell 2
  simp only [List.getElem?_cons_zero, List.getElem?_cons_succ] at q2
  have HP1 := Lib.hid hp1
  have HB1 := Lib.hid hb1
  have HW1 := Lib.hid hw1
  have HG0 := Lib.hid hg0
  have HOK := Lib.hid hok
  have HWT : Hid (WantsF (w1.alloc (.cells #[.int .i64 217, .int .i64 1, .int .i64 218, .int .i64 2, .int .i64 219, .int .i64 4] 62)) (w1.alloc (.cells #[.int .i64 217, .int .i64 1, .int .i64 218, .int .i64 2, .int .i64 219, .int .i64 4] 62)).heap.size (some ⟨W.heap.size + 1, 0, none⟩) [(217, 1), (218, 2), (219, 4)]) := by
    have := (wantsF_lit w1 [(217, 1), (218, 2), (219, 4)]).more (show w1.heap.size + 1 ≤ (w1.alloc (.cells #[.int .i64 217, .int .i64 1, .int .i64 218, .int .i64 2, .int .i64 219, .int .i64 4] 62)).heap.size by simp)
    rw [hz] at this
    exact this
  clear hb hb1 hp1 hw1 hg0 hok
  go_enter Tryd.func7, Tryd.ntmps7
  go_wp2
  rw [← HW1.out]
  go_region_held3 (fun W' => W'.cell? ⟨W.heap.size, 2, none⟩ = some (.string s)) (first | assumption | go_keep | exact ((HP1.out.alloc _).drewN 1).cell 2)
    (first
      | (go_at_call 23
         refine (putHead_any (w1.alloc (.cells #[.int .i64 217, .int .i64 1, .int .i64 218, .int .i64 2, .int .i64 219, .int .i64 4] 62)).drew gf 3 s.size st 160 32 sh (some ⟨W.heap.size + 1, 0, none⟩) [(217, 1), (218, 2), (219, 4)] (HB1.out.alloc _) (by omega) HWT.out (by simp) (by simp) (.inr ⟨by omega, by omega, by omega, orP160⟩) HOK.out).mono ?_
         rintro e w3 ⟨enc, A3, c3, st3, rfl, hf3, hown3, hb3, hg3⟩
         have hp3 : Blk w3 W.heap.size 30 _ := (HP1.out.alloc _).grown (w := (w1.alloc (.cells #[.int .i64 217, .int .i64 1, .int .i64 218, .int .i64 2, .int .i64 219, .int .i64 4] 62))) ⟨hg3.os, hg3.tape, hg3.output, hg3.size, hg3.block⟩ (fun e => (HP1.out.ne_ HB1.out (by decide)) (by injection e))
         have hS3 : w3.cell? ⟨W.heap.size, 2, none⟩ = some (.string s) := hp3.cell 2
         have HF3 := Lib.hid hf3
         have HO3 := Lib.hid hown3
         have HB3 := Lib.hid hb3
         have HG3 : Hid (W.grownBy w3 (some gf)) := grownP_trans HG0.out (grownP_trans (World.grownBy_alloc w1 (.cells #[.int .i64 217, .int .i64 1, .int .i64 218, .int .i64 2, .int .i64 219, .int .i64 4] 62) _) ⟨hg3.os, hg3.tape, hg3.output, hg3.size, hg3.block⟩)
         have HP3 := Lib.hid hp3
         obtain ⟨hl0, hl5⟩ := headX_len hf3 (by simp)
         obtain ⟨N3, hN3⟩ : ∃ N3, N3 = enc.length := ⟨_, rfl⟩
         rw [← hN3] at HO3 hl0 hl5 ⊢
         have HN3 := Lib.hid hN3
         clear hf3 hown3 hb3 hg3 hp3 hN3)
      | (refine step_append_str (B := W.heap.size) rfl (.tmp 52) (.tmp 54) rfl rfl rfl (own_lower HO3.out (by simp; omega)) (HG3.out.size) (by omega) ?_
         intro A4 c4 w4 HO4 HG4
         have hlo : ∀ j, (Value.slice A3 N3 c3).ownBlock = some j → W.heap.size ≤ j := fun j hj => by
           have := (HO3.out.lt j hj).1
           simp at this
           omega
         have hS4 : w4.cell? ⟨W.heap.size, 2, none⟩ = some (.string s) := (HP3.out.grown HG4.out (fun e => own_neP HO3.out HP3.out (by decide) e.symm)).cell 2
         have HB4 := Lib.hid (HB3.out.grown HG4.out (fun e => own_neP HO3.out HB3.out (by decide) e.symm))
         have HGR4 := Lib.hid (grownP_fresh HG3.out HG4.out hlo)
         clear hlo))
  all_goals
    go_wp2
    go_ret
    have hn := HN3.out
    have ho := HO4.out
    have e : N3 + s.size = (enc ++ numsS s).length := by rw [List.length_append, numsS_length, hn]
    rw [e] at ho ⊢
    exact ⟨enc ++ numsS s, A4, c4, st3, rfl, ⟨enc, HF3.out, rfl⟩, ho, HB4.out, HGR4.out⟩

set_option maxHeartbeats 4000000 in
set_option maxRecDepth 100000 in
theorem PP_bin (W : World) (gf : Nat) (st u x : Int) (sh : Bool) (s : ByteArray) (n c : Nat) (A : Option Addr) (hs : s.size ≤ 131072) (hb : Blk W gf 34 [.int .u64 st, .bool sh]) :
    Calls Tryd.prog 7 #[.agg #[.int .i64 7, .int .u64 u, .string s, .int .i64 x, .slice A n c], .pointer (some ⟨gf, 0, none⟩)] W (PutH gf sh (fun enc => ∃ hd, HeadX s.size (-1) 0 [(196, 1), (197, 2), (198, 4)] hd ∧ enc = hd ++ numsS s) W) := by
  obtain ⟨w1, hw1⟩ : ∃ w1, w1 = W.alloc (.cells #[.int .i64 7, .int .u64 u, .string s, .int .i64 x, .slice A n c] 30) := ⟨_, rfl⟩
  have hz : w1.heap.size = W.heap.size + 1 := by rw [hw1]; simp
  have hb1 : Blk w1 gf 34 [.int .u64 st, .bool sh] := by rw [hw1]; exact hb.alloc _
  have hp1 : Blk w1 W.heap.size 30 [.int .i64 7, .int .u64 u, .string s, .int .i64 x, .slice A n c] := by rw [hw1]; exact Blk.new W _ [_, _, _, _, _]
  have hg0 : W.grownBy w1 (some gf) := by rw [hw1]; exact World.grownBy_alloc _ _ _
  have hok : 0 < (([(196, 1), (197, 2), (198, 4)] : List (Int × Nat)).filter (okF ((s.size : Nat) : Int))).length := by
    apply List.length_pos_of_mem (a := (198, 4))
    refine List.mem_filter.2 ⟨by simp, ?_⟩
    simp only [okF, Bool.or_eq_true, decide_eq_true_eq]
    right
    have : (2 : Int) ^ (8 * 4) = 4294967296 := by decide
    rw [this]
    omega
  have q2 := hp1.cell 2
  simp only [List.getElem?_cons_zero, List.getElem?_cons_succ] at q2
  have HP1 := Lib.hid hp1
  have HB1 := Lib.hid hb1
  have HW1 := Lib.hid hw1
  have HG0 := Lib.hid hg0
  have HOK := Lib.hid hok
  have HWT : Hid (WantsF (w1.alloc (.cells #[.int .i64 196, .int .i64 1, .int .i64 197, .int .i64 2, .int .i64 198, .int .i64 4] 62)) (w1.alloc (.cells #[.int .i64 196, .int .i64 1, .int .i64 197, .int .i64 2, .int .i64 198, .int .i64 4] 62)).heap.size (some ⟨W.heap.size + 1, 0, none⟩) [(196, 1), (197, 2), (198, 4)]) := by
    have := (wantsF_lit w1 [(196, 1), (197, 2), (198, 4)]).more (show w1.heap.size + 1 ≤ (w1.alloc (.cells #[.int .i64 196, .int .i64 1, .int .i64 197, .int .i64 2, .int .i64 198, .int .i64 4] 62)).heap.size by simp)
    rw [hz] at this
    exact this
  clear hb hb1 hp1 hw1 hg0 hok
  go_enter Tryd.func7, Tryd.ntmps7
  go_wp2
  rw [← HW1.out]
  go_region_held3 (fun W' => W'.cell? ⟨W.heap.size, 2, none⟩ = some (.string s)) (first | assumption | go_keep | exact ((HP1.out.alloc _).drewN 1).cell 2)
    (first
      | (go_at_call 23
         refine (putHead_any (w1.alloc (.cells #[.int .i64 196, .int .i64 1, .int .i64 197, .int .i64 2, .int .i64 198, .int .i64 4] 62)).drew gf 3 s.size st (-1) 0 sh (some ⟨W.heap.size + 1, 0, none⟩) [(196, 1), (197, 2), (198, 4)] (HB1.out.alloc _) (by omega) HWT.out (by simp) (by simp) (.inl (by omega)) HOK.out).mono ?_
         rintro e w3 ⟨enc, A3, c3, st3, rfl, hf3, hown3, hb3, hg3⟩
         have hp3 : Blk w3 W.heap.size 30 _ := (HP1.out.alloc _).grown (w := (w1.alloc (.cells #[.int .i64 196, .int .i64 1, .int .i64 197, .int .i64 2, .int .i64 198, .int .i64 4] 62))) ⟨hg3.os, hg3.tape, hg3.output, hg3.size, hg3.block⟩ (fun e => (HP1.out.ne_ HB1.out (by decide)) (by injection e))
         have hS3 : w3.cell? ⟨W.heap.size, 2, none⟩ = some (.string s) := hp3.cell 2
         have HF3 := Lib.hid hf3
         have HO3 := Lib.hid hown3
         have HB3 := Lib.hid hb3
         have HG3 : Hid (W.grownBy w3 (some gf)) := grownP_trans HG0.out (grownP_trans (World.grownBy_alloc w1 (.cells #[.int .i64 196, .int .i64 1, .int .i64 197, .int .i64 2, .int .i64 198, .int .i64 4] 62) _) ⟨hg3.os, hg3.tape, hg3.output, hg3.size, hg3.block⟩)
         have HP3 := Lib.hid hp3
         obtain ⟨hl0, hl5⟩ := headX_len hf3 (by simp)
         obtain ⟨N3, hN3⟩ : ∃ N3, N3 = enc.length := ⟨_, rfl⟩
         rw [← hN3] at HO3 hl0 hl5 ⊢
         have HN3 := Lib.hid hN3
         clear hf3 hown3 hb3 hg3 hp3 hN3)
      | (refine step_append_str (B := W.heap.size) rfl (.tmp 66) (.tmp 68) rfl rfl rfl (own_lower HO3.out (by simp; omega)) (HG3.out.size) (by omega) ?_
         intro A4 c4 w4 HO4 HG4
         have hlo : ∀ j, (Value.slice A3 N3 c3).ownBlock = some j → W.heap.size ≤ j := fun j hj => by
           have := (HO3.out.lt j hj).1
           simp at this
           omega
         have hS4 : w4.cell? ⟨W.heap.size, 2, none⟩ = some (.string s) := (HP3.out.grown HG4.out (fun e => own_neP HO3.out HP3.out (by decide) e.symm)).cell 2
         have HB4 := Lib.hid (HB3.out.grown HG4.out (fun e => own_neP HO3.out HB3.out (by decide) e.symm))
         have HGR4 := Lib.hid (grownP_fresh HG3.out HG4.out hlo)
         clear hlo))
  all_goals
    go_wp2
    go_ret
    have hn := HN3.out
    have ho := HO4.out
    have e : N3 + s.size = (enc ++ numsS s).length := by rw [List.length_append, numsS_length, hn]
    rw [e] at ho ⊢
    exact ⟨enc ++ numsS s, A4, c4, st3, rfl, ⟨enc, HF3.out, rfl⟩, ho, HB4.out, HGR4.out⟩
end Go.Proofs.YtfhaddnacdjpoaaDoor
