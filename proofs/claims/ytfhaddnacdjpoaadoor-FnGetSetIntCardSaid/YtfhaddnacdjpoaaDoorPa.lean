/- spec.Forms: pick; spec.big; form.headed: the bytes of a number behind a code. -/
import Derived.Test.YtfhaddnacdjpoaaDoorRk
import Derived.Deep.RegionHeld3
namespace Go.Proofs.YtfhaddnacdjpoaaDoor
open Go.RowKit
set_option linter.unusedVariables false

/-- A choice was made: Forms is as it was, but for its state. -/
def Pk (gf : Nat) (sh : Bool) (n : Nat) (W : World) (e : Ending) (W' : World) : Prop :=
  ∃ (k : Nat) (st' : Int), e = .returned (.int .i64 k) ∧ k < n ∧ Blk W' gf 34 [.int .u64 st', .bool sh] ∧ W.grownBy W' (some gf)
theorem grown_set (W : World) (g i : Nat) (v : Value) : W.grownBy (W.setCell ⟨g, i, none⟩ v) (some g) :=
  ⟨rfl, rfl, rfl, by simp, fun k hk hne => Below.heap_setCell W ⟨g, i, none⟩ v k (fun e => hne (by rw [e]))⟩
theorem pick_val (x : Int) (n : Nat) (h0 : 0 < n) : ∃ k : Nat, (wrap64 (IntKind.u64.wrap x / 8589934592)).tmod (n : Int) = (k : Int) ∧ k < n := by
  have h1 : 0 ≤ IntKind.u64.wrap x / 8589934592 ∧ IntKind.u64.wrap x / 8589934592 < 2147483648 := by rw [IntKind.wrap_u64]; omega
  obtain ⟨h1, h2⟩ := h1
  generalize IntKind.u64.wrap x / 8589934592 = y at *
  have h3 : wrap64 y = y := by unfold wrap64; omega
  rw [h3, Int.tmod_eq_emod_of_nonneg h1]
  have h4 := Int.emod_nonneg y (show (n : Int) ≠ 0 by omega)
  have h5 := Int.emod_lt_of_pos y (show (0 : Int) < n by omega)
  exact ⟨(y % (n : Int)).toNat, by omega, by omega⟩
theorem pk_ret {a b : Int} (h : a = b) : Ending.returned (.int .i64 a) = .returned (.int .i64 b) := by rw [h]
set_option maxHeartbeats 1000000 in
set_option maxRecDepth 100000 in
theorem pick_calls (W : World) (gf n : Nat) (st : Int) (sh : Bool) (h : Blk W gf 34 [.int .u64 st, .bool sh]) (h0 : 0 < n) (h1 : n ≤ 1000) :
    Calls Tryd.prog 35 #[.pointer (some ⟨gf, 0, none⟩), .int .i64 n] W (Pk gf sh n W) := by
  have q0 := h.cell 0
  have q1 := h.cell 1
  have f0 := h.frozen 0
  simp only [List.getElem?_cons_zero, List.getElem?_cons_succ] at q0 q1
  have H := Lib.hid h
  clear h
  cases sh
  · by_cases hn : n = 1
    · subst hn
      go_enter Tryd.func35, Tryd.ntmps35
      go_wp2
      go_ret
      exact ⟨0, st, rfl, by omega, H.out, World.grownBy.refl _ _⟩
    · have hn2 : ¬ ((n : Int) ≤ 1) := by omega
      have hd : decide ((n : Int) ≤ 1) = false := decide_eq_false hn2
      go_enter Tryd.func35, Tryd.ntmps35
      go_wp2
      go_ret
      obtain ⟨k, hk, hkn⟩ := pick_val (IntKind.u64.wrap (st * 6364136223846793005) + 1442695040888963407) n h0
      exact ⟨k, _, pk_ret hk, hkn, H.out.set_ 0 _, grown_set _ _ _ _⟩
  · go_enter Tryd.func35, Tryd.ntmps35
    go_wp2
    go_ret
    exact ⟨0, st, rfl, h0, H.out, World.grownBy.refl _ _⟩

theorem be_get (u : Int) (n j : Nat) (h : j < n) : (be u n)[j]? = some (byt u (n - 1 - j)) := by
  induction n generalizing j with
  | zero => omega
  | succ n ih =>
    cases j with
    | zero => simp [be]
    | succ j =>
      have := ih j (by omega)
      simp only [be, List.getElem?_cons_succ, this]
      rw [show n + 1 - 1 - (j + 1) = n - 1 - j by omega]
theorem be_take_succ (u : Int) (n k : Nat) (h0 : 0 < k) (h1 : k ≤ n) : (be u n).take (n - k + 1) = (be u n).take (n - k) ++ [byt u (k - 1)] := by
  have h := be_get u n (n - k) (by omega)
  rw [show n - 1 - (n - k) = k - 1 by omega] at h
  rw [List.take_add_one, h]
  rfl
theorem byt_pow (u : Int) (k : Nat) : u / 2 ^ (8 * k) % 256 = byt u k := by
  unfold byt
  rw [Int.pow_mul]
  rfl
theorem own_formP {w : World} {base n : Nat} {e : TypeId} {size : Nat} {v : Value} {xs : List Value} (h : w.ownsRow base e size v n xs) : ∃ A c, v = .slice A n c := by
  rcases h.2 with ⟨rfl, rfl⟩ | ⟨g, cap, cur, rfl, _, _, h1, h2, _⟩
  · exact ⟨none, 0, rfl⟩
  · exact ⟨_, cap, rfl⟩
theorem reads_oneP (w : World) (v : Value) (t : TypeId) : Reads (w.alloc (.cells #[v] t)) (w.heap.size + 1) 1 (some ⟨w.heap.size, 0, none⟩) 1 [v] := by
  refine ⟨rfl, fun _ => ⟨_, rfl, by simp, fun j u hu => ?_⟩⟩
  rw [add_lit, Nat.zero_add]
  exact ((Blk.new w t [v]).cell j).trans hu
/-- A call made a row of bytes of its own. -/
def Own8 (W : World) (l : List Int) (e : Ending) (W' : World) : Prop :=
  ∃ A c, e = .returned (.slice A l.length c) ∧ W'.ownsRow W.heap.size 5 1 (.slice A l.length c) l.length (bs l) ∧ Below W.heap.size W W'
set_option maxHeartbeats 2000000 in
set_option maxRecDepth 100000 in
theorem big_calls (W : World) (u : Int) (n : Nat) (h0 : 0 ≤ u) (h1 : u ≤ 18446744073709551615) (hn : n ≤ 8) :
    Calls Tryd.prog 34 #[.int .u64 u, .int .i64 n] W (Own8 W (be u n)) := by
  obtain ⟨i0, hi0, hz0, hz1, hz2⟩ := info_parts infoU8
  go_enter Tryd.func34, Tryd.ntmps34
  go_wp2
  go_loopw [5, 6] (fun v i wr => ∃ (k : Nat) (A : Option Addr) (c : Nat), k ≤ n ∧ i = .int .i64 ((k : Int) - 1) ∧ v = .slice A (n - k) c ∧ Hid (wr.ownsRow W.heap.size 5 1 (.slice A (n - k) c) (n - k) (bs ((be u n).take (n - k))) ∧ Below W.heap.size W wr)) (fun _ i _ => (intOf i + 1).toNat)
  case atStart => exact ⟨n, none, 0, Nat.le_refl _, rfl, by simp, ⟨by simp [bs], .inl ⟨by simp, by simp [bs]⟩⟩, Below.refl _ _⟩
  case round =>
    obtain ⟨k, A, c, hk, rfl, rfl, hrest⟩ := hrel
    by_cases hlt : 0 < k
    · have hts := be_take_succ u n k hlt hk
      rw [← byt_pow] at hts
      have hnk : n - (k - 1) = n - k + 1 := by omega
      have HTS := Lib.hid hts
      have HNK := Lib.hid hnk
      have hwz : W.heap.size ≤ wr.heap.size := hrest.out.2.size
      clear hts hnk
      go_wp2_with (
        (at_builtin)
        go_must (
          (refine wpList_append_any _ rfl (.tmp 13) (.tmp 19) 24 rfl W.heap.size 5 i0 _ 1 1 Tryd.underlying24 hi0 hz0 hz1 hz2 rfl (by omega) (.slice A (n - k) c) (n - k) _ rfl (hrest.out.1.alloc _) (wr.heap.size + 1) (some ⟨wr.heap.size, 0, none⟩) 1 1 [.int .u8 (u / 2 ^ (8 * (k - 1)) % 256)] rfl (reads_oneP _ _ _) (by simp [Value.oneCell']) (by simp only [maxLen]; omega) (by omega) (by simp; omega) ?_)
          intro v1 w3 hown1 hg1 hat1
          obtain ⟨A1', c1', rfl⟩ := own_formP hown1
          have HO1 := Lib.hid hown1
          have HBL := Lib.hid ((hrest.out.2.alloc hwz _).grown hg1 (by simp; omega) (fun j hj => (hrest.out.1.lt j hj).1))
          clear hown1 hg1 hat1))
      go_roundw
      case rel =>
        refine ⟨k - 1, A1', c1', by omega, by rw [show ((k - 1 : Nat) : Int) = (k : Int) - 1 by omega], by rw [HNK.out], ?_, HBL.out⟩
        have := HO1.out
        rw [HNK.out, HTS.out, bs_append]
        exact this
      case measure => simp [intOf]; omega
    · obtain rfl : k = 0 := by omega
      go_wp2
      go_ret
      have ho := hrest.out.1
      rw [Nat.sub_zero, List.take_of_length_le (by rw [be_length]; omega)] at ho
      refine ⟨A, c, ?_, by rw [be_length]; exact ho, hrest.out.2⟩
      rw [be_length]
      rfl

/-- A slice of one byte of the call's own is appended to. -/
theorem step_append_lit {w : World} {B g : Nat} {A : Option Addr} {x : Int} {l : List Int} {c : Nat} {ops : Array Oper} {o : Oper} {a : Act} {K : Act → World → Prop} {Q : Exit → Act → World → Prop} {E : Prop} (hgd : o.guard = none) (s y : Operand)
    (ho : o.op = .call { callee := .builtin .append, args := #[s, y], argTypes := #[24, 24] }) (hs : a.eval s = .slice (some ⟨g, 0, none⟩) 1 1) (hx : a.eval y = .slice A l.length c)
    (hb : Blk w g 5 [.int .u8 x]) (hB : B ≤ g) (hr : Reads w w.heap.size 1 A l.length (bs l)) (hn : l.length ≤ 100)
    (h : ∀ A' c' N w', Hid (N = (x :: l).length) → Hid (w'.ownsRow B 5 1 (.slice A' N c') N (bs (x :: l))) → Hid (w.grownBy w' (some g)) → K (a.put o.dst (.slice A' N c')) w') :
    if Region.wanted o (yielded ops a.tmps) = true then Oper.wp Tryd.prog o a w K Q else E := by
  have hwd : Region.wanted o (yielded ops a.tmps) = true := by simp [Region.wanted, hgd]
  rw [if_pos hwd]
  obtain ⟨i0, hi0, hz0, hz1, hz2⟩ := info_parts infoU8
  have hlt := hb.lt
  refine wp_append_any _ s y _ ho B 5 i0 _ 1 1 Tryd.underlying24 hi0 hz0 hz1 hz2 rfl (by omega) _ 1 [.int .u8 x] hs (blk_own (n := 1) hb hB (by simp) (by simp [maxLen])) w.heap.size A l.length c (bs l) hx hr (bs_one l) (by simp only [maxLen]; omega) (by omega) (by omega) ?_
  intro v1 w1 hown1 hg1 hat1
  obtain ⟨A', c', rfl⟩ := own_formP hown1
  exact h A' c' _ w1 (show 1 + l.length = (x :: l).length by rw [List.length_cons]; omega) hown1 hg1

set_option maxHeartbeats 2000000 in
set_option maxRecDepth 100000 in
theorem headed_calls (w : World) (u code : Int) (n : Nat) (h0 : 0 ≤ u) (h1 : u ≤ 18446744073709551615) (hn : n ≤ 8) (hc0 : 0 ≤ code) (hc1 : code ≤ 255) :
    Calls Tryd.prog 22 #[.agg #[.int .i64 code, .int .i64 n], .int .u64 u] w (Own8 w (code :: be u n)) := by
  have hcv : IntKind.u8.wrap code = code := by rw [IntKind.wrap_u8]; omega
  obtain ⟨w1, hw1⟩ : ∃ w1, w1 = w.alloc (.cells #[.int .i64 code, .int .i64 n] 62) := ⟨_, rfl⟩
  have hb : Blk w1 w.heap.size 62 [.int .i64 code, .int .i64 n] := by rw [hw1]; exact Blk.new w _ [_, _]
  have hz : w1.heap.size = w.heap.size + 1 := by rw [hw1]; simp
  have hbel : Below w.heap.size w w1 := by rw [hw1]; exact (Below.refl _ w).alloc (Nat.le_refl _) _
  have q0 := hb.cell 0
  have q1 := hb.cell 1
  simp only [List.getElem?_cons_zero, List.getElem?_cons_succ] at q0 q1
  have HW := Lib.hid hw1
  have HB := Lib.hid hb
  have HZ := Lib.hid hz
  have HBEL := Lib.hid hbel
  clear hw1 hb hz hbel
  go_enter Tryd.func22, Tryd.ntmps22
  go_wp2
  rw [← HW.out]
  have kA : Below w1.heap.size w1 w1.drew := (Below.refl _ _).drew
  go_region_held3 (fun W => W.cell? ⟨w.heap.size, 0, none⟩ = some (.int .i64 code) ∧ W.cell? ⟨w.heap.size, 1, none⟩ = some (.int .i64 n)) (first | assumption | go_keep)
    (first
      | (go_at_call 34
         refine (big_calls _ u n h0 h1 hn).mono ?_
         rintro e w3 ⟨A3, c3, rfl, hown3, hbel3⟩
         have hb3 : Blk w3 w.heap.size 62 [.int .i64 code, .int .i64 n] := by
           first
             | exact ((HB.out.alloc _).drewN 1).below hbel3 (by have := HZ.out; simp; omega)
             | exact (HB.out.drewN 1).below hbel3 (by have := HZ.out; simp; omega)
         have hl3 : Below w1.heap.size w1 w3 := by
           first
             | exact ((Below.refl _ w1).alloc (Nat.le_refl _) _).drew.trans (hbel3.mono (by simp))
             | exact (Below.refl _ w1).drew.trans (hbel3.mono (by simp))
         have hS3 : w3.cell? ⟨w.heap.size, 0, none⟩ = some (.int .i64 code) ∧ w3.cell? ⟨w.heap.size, 1, none⟩ = some (.int .i64 n) := ⟨hb3.cell 0, hb3.cell 1⟩
         first
           | (have HLIT : Hid (Blk w3 w1.heap.size 5 [.int .u8 code]) := ((Blk.new w1 _ [_]).drewN 1).below hbel3 (by simp))
           | (have HLIT : Hid (w3 = w3) := Lib.hid rfl)
         have HL3 := Lib.hid hl3
         have HB3 := Lib.hid hb3
         have HO3 := Lib.hid hown3
         clear hl3 hown3 hbel3 hb3)
      | (refine step_append_lit (B := w.heap.size) (x := code) (l := be u n) rfl (.tmp 8) (.tmp 12) rfl rfl rfl ?_ ?_ ?_ ?_ ?_
         · first
             | exact Blk.new w3 _ [_]
             | exact HLIT.out
         · have := HZ.out
           have := HL3.out.size
           omega
         · first
             | exact Reads.of_own HO3.out
             | exact ((Reads.of_own HO3.out).alloc (Nat.le_refl _) _).more (by simp)
         · rw [be_length]; omega
         intro A4 c4 N4 w4 HN4 HO4 HG4
         have z3 := HZ.out
         have z4 := HL3.out.size
         have hb4 : Blk w4 w.heap.size 62 [.int .i64 code, .int .i64 n] := by
           first
             | exact HB3.out.grown HG4.out (by intro e; injection e with e; omega)
             | exact (HB3.out.alloc _).grown HG4.out (by intro e; injection e with e; omega)
         have hS4 : w4.cell? ⟨w.heap.size, 0, none⟩ = some (.int .i64 code) ∧ w4.cell? ⟨w.heap.size, 1, none⟩ = some (.int .i64 n) := ⟨hb4.cell 0, hb4.cell 1⟩
         have HBEL4 : Hid (Below w.heap.size w w4) := by
           have hx := HBEL.out.trans (HL3.out.mono (by omega))
           first
             | exact hx.grown HG4.out (by omega) (fun j hj => by injection hj with hj; omega)
             | exact (hx.alloc (by omega) _).grown HG4.out (by simp; omega) (fun j hj => by injection hj with hj; omega)
         clear z3 z4 hb4 HG4 HB3 HLIT))
  all_goals
    go_wp2
    go_ret
    have hn4 := HN4.out
    subst hn4
    exact ⟨A4, c4, rfl, HO4.out, HBEL4.out⟩
end Go.Proofs.YtfhaddnacdjpoaaDoor
