/- spec.pieces at lists and maps, given PutValue at the values within. PRINTED by wip/genib.py. -/
import Derived.Test.YtjjhckbidcdkcaaDoorIa
import Derived.Test.YtjjhckbidcdkcaaDoorHv
import Derived.Test.YtjjhckbidcdkcaaDoorHz
namespace Go.Proofs.YtjjhckbidcdkcaaDoor
open Go.RowKit
set_option linter.unusedVariables false

/-- 'append(out, more...)' of pieces, an operation of a list. -/
theorem wpList_append_P {w : World} {B : Nat} {L M : List Pce} {v y : Value} {ops : Array Oper} {rest : List Oper} {o : Oper} {a : Act} {Q : Exit → Act → World → Prop} (hgd : o.guard = none) (s x : Operand)
    (ho : o.op = .call { callee := .builtin .append, args := #[s, x], argTypes := #[115, 115] }) (hs : a.eval s = v) (hx : a.eval x = y)
    (h1 : PcsW w B L v) (h2 : PcsW w B M y) (hB : B ≤ w.heap.size) (hn : L.length + M.length ≤ 1000000)
    (h : ∀ A' c' w', Hid (PcsW w' B (L ++ M) (.slice A' (L.length + M.length) c')) → Hid (w.grownBy w' v.ownBlock) → wpList Tryd.prog ops Q rest (a.put o.dst (.slice A' (L.length + M.length) c')) w') : wpList Tryd.prog ops Q (o :: rest) a w :=
  wpList_plain hgd fun _ hK => wp_append_P s x ho hs hx h1 h2 hB hn fun A' c' w' e1 e2 => hK _ _ (h A' c' w' e1 e2)
set_option maxHeartbeats 4000000 in
set_option maxRecDepth 100000 in
theorem pieces_22 (B gf : Nat) (sh : Bool) (u o : Int) (s : ByteArray) (n : Bool → Nat) (f : Bool → Nat → VT) (hgf : B ≤ gf) (hn : n false ≤ 1000) (hct : cntK (.mk 22 u s o n f) ≤ 500) (ih : ∀ i, i < n false → PV B gf sh (f false i)) : PC B gf sh (.mk 22 u s o n f) := by
  intro W st A c h hB hb
  obtain ⟨hwf, hk⟩ := h.open_
  obtain ⟨hnc0, hcm0, hk0⟩ := hk false
  simp only [VT.n, VT.kid] at hnc0 hk0
  have hcnt : cntK (.mk 22 u s o n f) = 1 + sumV (fun i => (f false i).cnt) (n false) := rfl
  have hu0 : 0 ≤ u := hwf.2.2.1
  have hu1 : u ≤ 18446744073709551615 := hwf.2.2.2.1
  have HT := Lib.hid h
  clear h hk hwf
  unfold vV
  simp only [VT.k, VT.u, VT.s, VT.o, VT.n]
  have HPG := Lib.hid (@Iff.rfl (PCPost gf sh (.mk 22 u s o n f) W = PCPost gf sh (.mk 22 u s o n f) W))
  clear HPG
  generalize A false = A0 at *
  generalize A true = A1 at *
  generalize c false = c0 at *
  generalize c true = c1 at *
  obtain ⟨n0, hn0⟩ : ∃ x, n false = x := ⟨_, rfl⟩
  obtain ⟨n1, hn1⟩ : ∃ x, n true = x := ⟨_, rfl⟩
  rw [hn0, hn1]
  rw [hn0] at hn ih hnc0 hk0 hcnt
  obtain ⟨w1, hw1⟩ : ∃ w1, w1 = W.alloc (.cells #[.int .i64 22, .int .u64 u, .string s, .slice A0 n0 c0, .int .i64 o, .slice A1 n1 c1] 25) := ⟨_, rfl⟩
  have hp1 : Blk w1 W.heap.size 25 [.int .i64 22, .int .u64 u, .string s, .slice A0 n0 c0, .int .i64 o, .slice A1 n1 c1] := by rw [hw1]; exact Blk.new W 25 [.int .i64 22, .int .u64 u, .string s, .slice A0 n0 c0, .int .i64 o, .slice A1 n1 c1]
  have hb1 : Below W.heap.size W w1 := by rw [hw1]; exact (Below.refl _ W).alloc (Nat.le_refl _) _
  have hf1 : Blk w1 gf 77 [.int .u64 st, .bool sh] := by rw [hw1]; exact hb.alloc _
  have hz1 : w1.heap.size = W.heap.size + 1 := by rw [hw1]; simp
  have v0 := hp1.cell 0
  have v1 := hp1.cell 1
  have v2 := hp1.cell 2
  have v3 := hp1.cell 3
  simp only [List.getElem?_cons_zero, List.getElem?_cons_succ] at v0 v1 v2 v3
  have hHV : (VT.mk 22 u s o n f).n false = n0 := hn0
  generalize hTT : (VT.mk 22 u s o n f) = TT at *
  generalize f false = f0 at *
  have hTk : TT.k = 22 := by rw [← hTT]; rfl
  have HIH := Lib.hid ih
  have HK0 := Lib.hid hk0
  have HCNT := Lib.hid hcnt
  have HCT := Lib.hid hct
  have HTK := Lib.hid hTk
  have HHV := Lib.hid hHV
  obtain ⟨i0, hi0, hiz0, hiz1, hiz2⟩ := info_parts infoU8
  clear ih hk0 hcnt hct hTk hHV hTT
  have HW1 := Lib.hid hw1
  have HP1 := Lib.hid hp1
  have HB1 := Lib.hid hb1
  have HF1 := Lib.hid hf1
  have HN0 := Lib.hid hn0
  have HZ1 := Lib.hid hz1
  clear hw1 hp1 hb1 hf1 hb hn0 hn1 hz1
  have hmx : n0 ≤ 9223372036854775807 := by omega
  have hg1 : W.grownBy w1 (some gf) := grown_of_below HB1.out _
  have HG1 := Lib.hid hg1
  clear hg1
  go_enter Tryd.func64, Tryd.ntmps64
  go_upto_region 1 with (fail)
  rw [← HW1.out]
  go_wp2
  go_loopw [5, 63] (fun v i wr => ∃ (m N c' : Nat) (A' : Option Addr), m ≤ n0 ∧ i = .int .i64 m ∧ v = .slice A' N c' ∧ N ≤ 70000000 ∧ Hid (∃ (d : List Int) (st' : Int), N = d.length ∧ IsB d ∧ d.length ≤ 140000 * sumV (fun i => (f0 i).cnt) m ∧ wr.ownsRow W.heap.size 5 1 (.slice A' N c') N (bs d) ∧ Blk wr gf 77 [.int .u64 st', .bool sh] ∧ Blk wr W.heap.size 25 [.int .i64 22, .int .u64 u, .string s, .slice A0 n0 c0, .int .i64 o, .slice A1 n1 c1] ∧ W.grownBy wr (some gf))) (fun _ i _ => n0 - (intOf i).toNat)
  case atStart => exact ⟨0, 0, 0, none, Nat.zero_le _, rfl, rfl, by omega, [], st, rfl, isB_nil, by simp, ⟨by simp [bs], .inl ⟨rfl, rfl⟩⟩, HF1.out, HP1.out, HG1.out⟩
  case round =>
    obtain ⟨m, N, c', A', hm, rfl, rfl, hNb, hrest⟩ := hrel
    obtain ⟨d, st4, hN, hdB, hdl, hown, hb4, hp4, hg4⟩ := hrest.out
    have x0 := hp4.cell 0
    have x3 := hp4.cell 3
    simp only [List.getElem?_cons_zero, List.getElem?_cons_succ] at x0 x3
    have hwz : W.heap.size < wr.heap.size := hp4.lt
    have HD := Lib.hid (And.intro hN (And.intro hdB hdl))
    have HOWN := Lib.hid hown
    have HB4 := Lib.hid hb4
    have HP4 := Lib.hid hp4
    have HG4 := Lib.hid hg4
    clear hrest hN hdB hdl hown hb4 hg4 hp4
    by_cases hlt : m < n0
    · obtain ⟨g, p, hA, hgB, hk⟩ := HK0.out (show 0 < n0 by omega)
      obtain ⟨Ai, ci, hva, htk⟩ := hk m hlt
      have hbel : Below B W wr := belowV HG4.out (fun j hj => by injection hj with hj; omega) hB
      have hva2 := hva.keep (W' := wr) (fun q => hbel.cell (p := ⟨g, q, none⟩) hgB)
      obtain ⟨d0, d1, d2, d3, d4, d5⟩ := hva2
      have hBw : B ≤ wr.heap.size := by omega
      obtain ⟨w2, hw2⟩ : ∃ w2, w2 = wr.alloc (.cells #[.int .i64 (f0 m).k, .int .u64 (f0 m).u, .string (f0 m).s, .slice (Ai false) ((f0 m).n false) (ci false), .int .i64 (f0 m).o, .slice (Ai true) ((f0 m).n true) (ci true)] 25) := ⟨_, rfl⟩
      have hcall := HIH.out m hlt w2 st4 Ai ci (TV.below (by rw [hw2]; exact hbel.alloc hBw _) _ _ _ htk) (by rw [hw2]; simp; omega) (by rw [hw2]; exact HB4.out.alloc _)
      unfold vV at hcall
      have hsum : sumV (fun i => (f0 i).cnt) (m + 1) = sumV (fun i => (f0 i).cnt) m + (f0 m).cnt := rfl
      have hsle := sumV_le (fun i => (f0 i).cnt) (show m + 1 ≤ n0 by omega)
      subst hA
      have HC := Lib.hid hcall
      have HW2 := Lib.hid hw2
      have HSUM := Lib.hid (And.intro hsum hsle)
      clear hk hva htk hcall hsum hsle hbel hw2
      generalize f0 m = T at *
      go_wp2_with (first
        | ((have HZ9 := HC)
           go_at_call 36
           go_must (
             (rw [← HW2.out])
             refine HC.out.mono ?_
             rintro e w5 ⟨enc5, A5, c5, st5, rfl, hf5, hown5, hb5, hg5⟩
             have hg5' : wr.grownBy w5 (some gf) := by
               rw [HW2.out] at hg5
               exact grownV_trans (World.grownBy_alloc wr _ _) hg5
             have hownr := HOWN.out.kept hg5' (.inr (own_neH HOWN.out HB4.out (by decide)))
             have hp5 := HP4.out.grown hg5' (fun e => HP4.out.ne_ HB4.out (by decide) (by injection e))
             have hwz5 : W.heap.size ≤ w5.heap.size := by have := hg5'.size; omega
             have hsm : N + enc5.length ≤ 70000000 := by
               have h1 := HD.out.1
               have h2 := HD.out.2.2
               have h3 := HSUM.out.1
               have h4 := HSUM.out.2
               have h5 := HCT.out
               have h6 := HCNT.out
               have h7 := hf5.2.2.1
               omega
             have HF5 := Lib.hid hf5
             have HRD5 := Lib.hid (Reads.of_own hown5)
             have HOWN5 := Lib.hid hownr
             have HP5 := Lib.hid hp5
             have HB5 := Lib.hid hb5
             have HG5 := Lib.hid (grownV_trans HG4.out hg5')
             clear hf5 hown5 hb5 hg5 hg5' hownr hp5))
        | ((have HZ8 := HB5)
           at_builtin
           go_must (
             (refine wpList_append_any _ rfl (.tmp 67) (.tmp 70) 26 rfl W.heap.size 5 i0 _ 1 1 Tryd.underlying26 hi0 hiz0 hiz1 hiz2 rfl (by omega) (.slice A' N c') N _ rfl HOWN5.out w5.heap.size A5 enc5.length c5 (bs enc5) rfl HRD5.out (bs_one _) (by simp only [maxLen]; omega) (by omega) hwz5 ?_)
             intro v1 w6 hown6 hg6 hat6
             obtain ⟨A6, c6, rfl⟩ := own_formP hown6
             rw [← bs_append] at hown6
             have hb6 := HB5.out.grown hg6 (fun e => own_neH HOWN5.out HB5.out (by decide) e.symm)
             have hp6 := HP5.out.grown hg6 (fun e => own_neH HOWN5.out HP5.out (by decide) e.symm)
             have hgr6 := grownV_fresh HG5.out hg6 (fun j hj => (HOWN5.out.lt j hj).1)
             have HO6 := Lib.hid hown6
             have HB6 := Lib.hid hb6
             have HP6 := Lib.hid hp6
             have HG6 := Lib.hid hgr6
             clear hown6 hg6 hat6 hb6 hp6 hgr6)))
      go_roundw
      case rel =>
        obtain ⟨hN, hdB, hdl⟩ := HD.out
        refine ⟨m + 1, N + enc5.length, c6, A6, by omega, by go_num, rfl, hsm, d ++ enc5, st5, by rw [List.length_append, hN], isB_append hdB HF5.out.1, ?_, HO6.out, HB6.out, HP6.out, HG6.out⟩
        have := HF5.out.2.2.1
        rw [List.length_append, HSUM.out.1]
        omega
      case measure => simp [intOf]; omega
    · obtain rfl : n0 = m := by omega
      have hrd := Reads.of_own HOWN.out
      rw [HD.out.1] at hrd
      have hcall := lengthed_cnt wr 193 209 n0 hn d A' c' hrd (by have := HD.out.1; omega)
      rw [← HD.out.1] at hcall
      have HC := Lib.hid hcall
      clear hrd hcall
      go_wp2_with (
        (go_at_call 88)
        go_must (
          (refine HC.out.mono ?_)
          rintro e w3 ⟨v3, rfl, hpw, hb3⟩
          have hf3 := HB4.out.below hb3 HB4.out.lt
          have hp3 := HP4.out.below hb3 HP4.out.lt
          have x33 := hp3.cell 3
          simp only [List.getElem?_cons_zero, List.getElem?_cons_succ] at x33
          have hz3 := hb3.size
          have HPW := Lib.hid hpw
          have HF3 := Lib.hid hf3
          have HG3 := Lib.hid (grownV_trans HG4.out (grown_of_below hb3 _))
          clear hpw hb3 hf3 hp3))
      go_ret
      have HPF := Lib.hid (HPW.out.lower (show W.heap.size ≤ wr.heap.size by omega))
      have HFF := HF3
      have HGF := HG3
      refine ⟨_, lenP 193 209 d n0, st4, rfl, ?_, HPF.out, HFF.out, HGF.out⟩
      obtain ⟨q1, q2, q3⟩ := lenP_props 193 209 d n0 HD.out.2.1
      have hd3 := HD.out.2.2
      have hc1 := HCNT.out
      have hcN := HCT.out
      have hsz : ∀ p ∈ lenP 193 209 d n0, p.1 ∈ codesK TT.k ∧ IsB p.2 ∧ p.2.length + 10 ≤ 140000 * cntK TT := fun p hp => by
        obtain ⟨r1, r2, r3⟩ := q3 p hp
        refine ⟨?_, r2, by omega⟩
        rw [HTK.out]
        rcases r1 with h | h <;> rw [h] <;> simp [codesK, codesL]
      exact ⟨⟨_, q1, by rw [HTK.out]; rfl⟩, by omega, hsz, pcsX_no (by rw [HTK.out]; omega) (by rw [HTK.out]; omega) (by rw [HTK.out]; omega) (by rw [HTK.out]; omega), fun e => absurd e (by rw [HTK.out]; omega)⟩
set_option maxHeartbeats 4000000 in
set_option maxRecDepth 100000 in
theorem pieces_21 (B gf : Nat) (sh : Bool) (u o : Int) (s : ByteArray) (n : Bool → Nat) (f : Bool → Nat → VT) (hgf : B ≤ gf) (hn : n false ≤ 1000) (hct : cntK (.mk 21 u s o n f) ≤ 500) (ih : ∀ i, i < n false → PV B gf sh (f false i)) : PC B gf sh (.mk 21 u s o n f) := by
  intro W st A c h hB hb
  obtain ⟨hwf, hk⟩ := h.open_
  obtain ⟨hnc0, hcm0, hk0⟩ := hk false
  simp only [VT.n, VT.kid] at hnc0 hk0
  have hcnt : cntK (.mk 21 u s o n f) = 1 + sumV (fun i => (f false i).cnt) (n false) := rfl
  have hu0 : 0 ≤ u := hwf.2.2.1
  have hu1 : u ≤ 18446744073709551615 := hwf.2.2.2.1
  have HT := Lib.hid h
  clear h hk hwf
  unfold vV
  simp only [VT.k, VT.u, VT.s, VT.o, VT.n]
  have HPG := Lib.hid (@Iff.rfl (PCPost gf sh (.mk 21 u s o n f) W = PCPost gf sh (.mk 21 u s o n f) W))
  clear HPG
  generalize A false = A0 at *
  generalize A true = A1 at *
  generalize c false = c0 at *
  generalize c true = c1 at *
  obtain ⟨n0, hn0⟩ : ∃ x, n false = x := ⟨_, rfl⟩
  obtain ⟨n1, hn1⟩ : ∃ x, n true = x := ⟨_, rfl⟩
  rw [hn0, hn1]
  rw [hn0] at hn ih hnc0 hk0 hcnt
  obtain ⟨w1, hw1⟩ : ∃ w1, w1 = W.alloc (.cells #[.int .i64 21, .int .u64 u, .string s, .slice A0 n0 c0, .int .i64 o, .slice A1 n1 c1] 25) := ⟨_, rfl⟩
  have hp1 : Blk w1 W.heap.size 25 [.int .i64 21, .int .u64 u, .string s, .slice A0 n0 c0, .int .i64 o, .slice A1 n1 c1] := by rw [hw1]; exact Blk.new W 25 [.int .i64 21, .int .u64 u, .string s, .slice A0 n0 c0, .int .i64 o, .slice A1 n1 c1]
  have hb1 : Below W.heap.size W w1 := by rw [hw1]; exact (Below.refl _ W).alloc (Nat.le_refl _) _
  have hf1 : Blk w1 gf 77 [.int .u64 st, .bool sh] := by rw [hw1]; exact hb.alloc _
  have hz1 : w1.heap.size = W.heap.size + 1 := by rw [hw1]; simp
  have v0 := hp1.cell 0
  have v1 := hp1.cell 1
  have v2 := hp1.cell 2
  have v3 := hp1.cell 3
  simp only [List.getElem?_cons_zero, List.getElem?_cons_succ] at v0 v1 v2 v3
  have hHV : (VT.mk 21 u s o n f).n false = n0 := hn0
  generalize hTT : (VT.mk 21 u s o n f) = TT at *
  generalize f false = f0 at *
  have hTk : TT.k = 21 := by rw [← hTT]; rfl
  have HIH := Lib.hid ih
  have HK0 := Lib.hid hk0
  have HCNT := Lib.hid hcnt
  have HCT := Lib.hid hct
  have HTK := Lib.hid hTk
  have HHV := Lib.hid hHV
  obtain ⟨i0, hi0, hiz0, hiz1, hiz2⟩ := info_parts infoU8
  clear ih hk0 hcnt hct hTk hHV hTT
  have HW1 := Lib.hid hw1
  have HP1 := Lib.hid hp1
  have HB1 := Lib.hid hb1
  have HF1 := Lib.hid hf1
  have HN0 := Lib.hid hn0
  have HZ1 := Lib.hid hz1
  clear hw1 hp1 hb1 hf1 hb hn0 hn1 hz1
  have hmx : n0 ≤ 9223372036854775807 := by omega
  have hg1 : W.grownBy w1 (some gf) := grown_of_below HB1.out _
  have HG1 := Lib.hid hg1
  clear hg1
  go_enter Tryd.func64, Tryd.ntmps64
  go_upto_region 1 with (fail)
  rw [← HW1.out]
  go_wp2
  go_loopw [5, 63] (fun v i wr => ∃ (m N c' : Nat) (A' : Option Addr), m ≤ n0 ∧ i = .int .i64 m ∧ v = .slice A' N c' ∧ N ≤ 70000000 ∧ Hid (∃ (d : List Int) (st' : Int), N = d.length ∧ IsB d ∧ d.length ≤ 140000 * sumV (fun i => (f0 i).cnt) m ∧ wr.ownsRow W.heap.size 5 1 (.slice A' N c') N (bs d) ∧ Blk wr gf 77 [.int .u64 st', .bool sh] ∧ Blk wr W.heap.size 25 [.int .i64 21, .int .u64 u, .string s, .slice A0 n0 c0, .int .i64 o, .slice A1 n1 c1] ∧ W.grownBy wr (some gf))) (fun _ i _ => n0 - (intOf i).toNat)
  case atStart => exact ⟨0, 0, 0, none, Nat.zero_le _, rfl, rfl, by omega, [], st, rfl, isB_nil, by simp, ⟨by simp [bs], .inl ⟨rfl, rfl⟩⟩, HF1.out, HP1.out, HG1.out⟩
  case round =>
    obtain ⟨m, N, c', A', hm, rfl, rfl, hNb, hrest⟩ := hrel
    obtain ⟨d, st4, hN, hdB, hdl, hown, hb4, hp4, hg4⟩ := hrest.out
    have x0 := hp4.cell 0
    have x3 := hp4.cell 3
    simp only [List.getElem?_cons_zero, List.getElem?_cons_succ] at x0 x3
    have hwz : W.heap.size < wr.heap.size := hp4.lt
    have HD := Lib.hid (And.intro hN (And.intro hdB hdl))
    have HOWN := Lib.hid hown
    have HB4 := Lib.hid hb4
    have HP4 := Lib.hid hp4
    have HG4 := Lib.hid hg4
    clear hrest hN hdB hdl hown hb4 hg4 hp4
    by_cases hlt : m < n0
    · obtain ⟨g, p, hA, hgB, hk⟩ := HK0.out (show 0 < n0 by omega)
      obtain ⟨Ai, ci, hva, htk⟩ := hk m hlt
      have hbel : Below B W wr := belowV HG4.out (fun j hj => by injection hj with hj; omega) hB
      have hva2 := hva.keep (W' := wr) (fun q => hbel.cell (p := ⟨g, q, none⟩) hgB)
      obtain ⟨d0, d1, d2, d3, d4, d5⟩ := hva2
      have hBw : B ≤ wr.heap.size := by omega
      obtain ⟨w2, hw2⟩ : ∃ w2, w2 = wr.alloc (.cells #[.int .i64 (f0 m).k, .int .u64 (f0 m).u, .string (f0 m).s, .slice (Ai false) ((f0 m).n false) (ci false), .int .i64 (f0 m).o, .slice (Ai true) ((f0 m).n true) (ci true)] 25) := ⟨_, rfl⟩
      have hcall := HIH.out m hlt w2 st4 Ai ci (TV.below (by rw [hw2]; exact hbel.alloc hBw _) _ _ _ htk) (by rw [hw2]; simp; omega) (by rw [hw2]; exact HB4.out.alloc _)
      unfold vV at hcall
      have hsum : sumV (fun i => (f0 i).cnt) (m + 1) = sumV (fun i => (f0 i).cnt) m + (f0 m).cnt := rfl
      have hsle := sumV_le (fun i => (f0 i).cnt) (show m + 1 ≤ n0 by omega)
      subst hA
      have HC := Lib.hid hcall
      have HW2 := Lib.hid hw2
      have HSUM := Lib.hid (And.intro hsum hsle)
      clear hk hva htk hcall hsum hsle hbel hw2
      generalize f0 m = T at *
      go_wp2_with (first
        | ((have HZ9 := HC)
           go_at_call 36
           go_must (
             (rw [← HW2.out])
             refine HC.out.mono ?_
             rintro e w5 ⟨enc5, A5, c5, st5, rfl, hf5, hown5, hb5, hg5⟩
             have hg5' : wr.grownBy w5 (some gf) := by
               rw [HW2.out] at hg5
               exact grownV_trans (World.grownBy_alloc wr _ _) hg5
             have hownr := HOWN.out.kept hg5' (.inr (own_neH HOWN.out HB4.out (by decide)))
             have hp5 := HP4.out.grown hg5' (fun e => HP4.out.ne_ HB4.out (by decide) (by injection e))
             have hwz5 : W.heap.size ≤ w5.heap.size := by have := hg5'.size; omega
             have hsm : N + enc5.length ≤ 70000000 := by
               have h1 := HD.out.1
               have h2 := HD.out.2.2
               have h3 := HSUM.out.1
               have h4 := HSUM.out.2
               have h5 := HCT.out
               have h6 := HCNT.out
               have h7 := hf5.2.2.1
               omega
             have HF5 := Lib.hid hf5
             have HRD5 := Lib.hid (Reads.of_own hown5)
             have HOWN5 := Lib.hid hownr
             have HP5 := Lib.hid hp5
             have HB5 := Lib.hid hb5
             have HG5 := Lib.hid (grownV_trans HG4.out hg5')
             clear hf5 hown5 hb5 hg5 hg5' hownr hp5))
        | ((have HZ8 := HB5)
           at_builtin
           go_must (
             (refine wpList_append_any _ rfl (.tmp 67) (.tmp 70) 26 rfl W.heap.size 5 i0 _ 1 1 Tryd.underlying26 hi0 hiz0 hiz1 hiz2 rfl (by omega) (.slice A' N c') N _ rfl HOWN5.out w5.heap.size A5 enc5.length c5 (bs enc5) rfl HRD5.out (bs_one _) (by simp only [maxLen]; omega) (by omega) hwz5 ?_)
             intro v1 w6 hown6 hg6 hat6
             obtain ⟨A6, c6, rfl⟩ := own_formP hown6
             rw [← bs_append] at hown6
             have hb6 := HB5.out.grown hg6 (fun e => own_neH HOWN5.out HB5.out (by decide) e.symm)
             have hp6 := HP5.out.grown hg6 (fun e => own_neH HOWN5.out HP5.out (by decide) e.symm)
             have hgr6 := grownV_fresh HG5.out hg6 (fun j hj => (HOWN5.out.lt j hj).1)
             have HO6 := Lib.hid hown6
             have HB6 := Lib.hid hb6
             have HP6 := Lib.hid hp6
             have HG6 := Lib.hid hgr6
             clear hown6 hg6 hat6 hb6 hp6 hgr6)))
      go_roundw
      case rel =>
        obtain ⟨hN, hdB, hdl⟩ := HD.out
        refine ⟨m + 1, N + enc5.length, c6, A6, by omega, by go_num, rfl, hsm, d ++ enc5, st5, by rw [List.length_append, hN], isB_append hdB HF5.out.1, ?_, HO6.out, HB6.out, HP6.out, HG6.out⟩
        have := HF5.out.2.2.1
        rw [List.length_append, HSUM.out.1]
        omega
      case measure => simp [intOf]; omega
    · obtain rfl : n0 = m := by omega
      have hrd := Reads.of_own HOWN.out
      rw [HD.out.1] at hrd
      have hcall := lengthed_cnt wr 192 208 n0 hn d A' c' hrd (by have := HD.out.1; omega)
      rw [← HD.out.1] at hcall
      have HC := Lib.hid hcall
      clear hrd hcall
      by_cases hz0 : n0 = 0
      case neg =>
        have hzd : ((n0 : Int) == 0) = false := by rw [beq_eq_false_iff_ne]; omega
        clear hz0
        go_wp2_with (
          (go_at_call 88)
          go_must (
            (refine HC.out.mono ?_)
            rintro e w3 ⟨v3, rfl, hpw, hb3⟩
            have hf3 := HB4.out.below hb3 HB4.out.lt
            have hp3 := HP4.out.below hb3 HP4.out.lt
            have x33 := hp3.cell 3
            simp only [List.getElem?_cons_zero, List.getElem?_cons_succ] at x33
            have hz3 := hb3.size
            have HPW := Lib.hid hpw
            have HF3 := Lib.hid hf3
            have HG3 := Lib.hid (grownV_trans HG4.out (grown_of_below hb3 _))
            clear hpw hb3 hf3 hp3))
        go_ret
        have HPF := Lib.hid (HPW.out.lower (show W.heap.size ≤ wr.heap.size by omega))
        have HFF := HF3
        have HGF := HG3
        refine ⟨_, lenP 192 208 d n0, st4, rfl, ?_, HPF.out, HFF.out, HGF.out⟩
        obtain ⟨q1, q2, q3⟩ := lenP_props 192 208 d n0 HD.out.2.1
        have hd3 := HD.out.2.2
        have hc1 := HCNT.out
        have hcN := HCT.out
        have hsz : ∀ p ∈ lenP 192 208 d n0, p.1 ∈ codesK TT.k ∧ IsB p.2 ∧ p.2.length + 10 ≤ 140000 * cntK TT := fun p hp => by
          obtain ⟨r1, r2, r3⟩ := q3 p hp
          refine ⟨?_, r2, by omega⟩
          rw [HTK.out]
          rcases r1 with h | h <;> rw [h] <;> simp [codesK, codesL]
        exact ⟨⟨_, q1, by rw [HTK.out]; rfl⟩, by omega, hsz, pcsX_no (by rw [HTK.out]; omega) (by rw [HTK.out]; omega) (by rw [HTK.out]; omega) (by rw [HTK.out]; omega), fun e => absurd e (by rw [HTK.out]; omega)⟩
      subst hz0
      obtain ⟨LP, hLP⟩ : ∃ LP, lenP 192 208 d ((0 : Nat) : Int) = LP := ⟨_, rfl⟩
      have hLl : LP.length ≤ 2 := by rw [← hLP]; exact (lenP_props 192 208 d _ HD.out.2.1).2.1
      have hC2 := HC.out
      rw [hLP] at hC2
      clear HC
      have HC := Lib.hid hC2
      have HLP := Lib.hid hLP
      clear hC2 hLP
      go_wp2_with (first
        | ((have HZ9 := HF3)
           at_builtin
           go_must (
             (refine wpList_append_P rfl (.tmp 91) (.tmp 92) (B := W.heap.size) (L := [(69, [])]) (M := LP) rfl rfl rfl HONE.out HPL3.out hz33 (by simp; omega) ?_)
             intro A9 c9 w9 HP9 HG9
             have hz39 := HG9.out.size
             have hro : ∀ j, (Value.slice (some (⟨w3.heap.size, 0, none⟩ : Addr)) 1 1).ownBlock = some j → w3.heap.size ≤ j := fun j hj => by
               have := Option.some.inj (show some w3.heap.size = some j from hj)
               omega
             have hf9 : Blk w9 gf 77 [.int .u64 st4, .bool sh] := (HF3.out.alloc _).grown HG9.out (fun e => by have := hro gf e.symm; have := HF3.out.lt; omega)
             have hg9 : W.grownBy w9 (some gf) := grownV_fresh (grownV_trans HG3.out (World.grownBy_alloc _ _ _)) HG9.out (fun j hj => by have := hro j hj; omega)
             have HFF := Lib.hid hf9
             have HGF := Lib.hid hg9
             clear hz39 hro hf9 hg9))
        | ((have HZ8 := HC)
           go_at_call 88
           go_must (
             (refine HC.out.mono ?_)
             rintro e w3 ⟨v3, rfl, hpw, hb3⟩
             have hf3 := HB4.out.below hb3 HB4.out.lt
             have hp3 := HP4.out.below hb3 HP4.out.lt
             have x33 := hp3.cell 3
             simp only [List.getElem?_cons_zero, List.getElem?_cons_succ] at x33
             have hz3 := hb3.size
             have hz33 : W.heap.size ≤ (w3.alloc (.cells (rowP [(69, [])] [.slice none 0 0]).toArray 118)).heap.size := by simp; omega
             have hone := pcsW_lay w3 W.heap.size [(69, [])] [.slice none 0 0] rfl (by simp) (by omega) (fun i p v h1 h2 => by
               match i with
               | 0 => simp at h1 h2; subst h1 h2; exact OwnB.nil _ _
               | i + 1 => simp at h1)
             have HONE := Lib.hid hone
             have HPL3 := Lib.hid ((hpw.lower (show W.heap.size ≤ wr.heap.size by omega)).below ((Below.refl _ w3).alloc (Nat.le_refl _) (.cells (rowP [(69, [])] [.slice none 0 0]).toArray 118)))
             have HF3 := Lib.hid hf3
             have HG3 := Lib.hid (grownV_trans HG4.out (grown_of_below hb3 _))
             clear hpw hb3 hf3 hp3 hone)))
      go_ret
      have HPF := HP9
      refine ⟨_, [(69, [])] ++ LP, st4, rfl, ?_, HPF.out, HFF.out, HGF.out⟩
      obtain ⟨q1, q2, q3⟩ := lenP_props 192 208 d ((0 : Nat) : Int) HD.out.2.1
      have hd3 := HD.out.2.2
      have hc1 := HCNT.out
      have hcN := HCT.out
      have hsz : ∀ p ∈ lenP 192 208 d ((0 : Nat) : Int), p.1 ∈ codesK TT.k ∧ IsB p.2 ∧ p.2.length + 10 ≤ 140000 * cntK TT := fun p hp => by
        obtain ⟨r1, r2, r3⟩ := q3 p hp
        refine ⟨?_, r2, by omega⟩
        rw [HTK.out]
        rcases r1 with h | h <;> rw [h] <;> simp [codesK, codesL]
      rw [HLP.out] at q1 q2 hsz
      refine ⟨⟨_, List.mem_append_right _ q1, by rw [HTK.out]; rfl⟩, by simp; omega, fun p hp => ?_, pcsX_no (by rw [HTK.out]; omega) (by rw [HTK.out]; omega) (by rw [HTK.out]; omega) (by rw [HTK.out]; omega), fun e => absurd e (by rw [HTK.out]; omega)⟩
      rcases List.mem_append.1 hp with h | h
      · rw [List.mem_singleton.1 h]
        exact ⟨by rw [HTK.out]; simp [codesK, codesL], isB_nil, by simp; omega⟩
      · exact hsz p h
end Go.Proofs.YtjjhckbidcdkcaaDoor
