/- AMQP: times; a timestamp is written. PRINTED by wip/genb.py. -/
import Derived.Test.YtpkfmcnbodnpeaaDoorVa
namespace Go.Proofs.YtpkfmcnbodnpeaaDoor
open Go.RowKit
set_option linter.unusedVariables false

/-- A result that lies in memory. -/
theorem results_cell0 {P : Program} {fn : Func} {p : Tmp} {ty : TypeId} (h : fn.results = #[.cell p ty]) {tmps : Array Value} {w : World} {g : Nat} {cs : List Value} (d : TypeDesc)
    (hp : tmps.getD p undef = .pointer (some ⟨g, 0, none⟩)) (hg : Blk w g ty cs) (hu : P.underlying ty = some d) (hd : (match d with | .struct _ | .array _ _ => true | _ => false) = true) (hi : (P.info? ty).map (·.size) = some cs.length) :
    (results fn tmps).run P w = .ok (.agg cs.toArray) w := by
  have hp' : tmps[p]?.getD undef = .pointer (some ⟨g, 0, none⟩) := by simpa using hp
  simp [results, h, hp', asAddr, run_loadVar_row w g ty ty cs.toArray (0, 0) d hg hu hd (by simpa using hi)]

theorem tdiv_small (n : Int) (h0 : -1000000000 < n) (h1 : n < 0) : n.tdiv 1000000000 = 0 := by
  obtain ⟨m, rfl⟩ : ∃ m : Int, n = -m := ⟨-n, by omega⟩
  rw [Int.neg_tdiv, Int.tdiv_eq_ediv_of_nonneg (by omega)]
  omega
theorem tdiv_neg (n k : Int) (h1 : n < 0) : n.tdiv k = -((-n) / k) := by
  obtain ⟨m, rfl⟩ : ∃ m : Int, n = -m := ⟨-n, by omega⟩
  rw [Int.neg_tdiv, Int.tdiv_eq_ediv_of_nonneg (by omega), Int.neg_neg]
theorem tmod_neg (n k : Int) (h1 : n < 0) : n.tmod k = -((-n) % k) := by
  obtain ⟨m, rfl⟩ : ∃ m : Int, n = -m := ⟨-n, by omega⟩
  rw [Int.neg_tmod, Int.tmod_eq_emod_of_nonneg (by omega), Int.neg_neg]

set_option maxHeartbeats 1000000 in
set_option maxRecDepth 100000 in
theorem At_pos (w : World) (sec nsec : Int) (h0 : 0 ≤ nsec) (h1 : nsec < 1000000000) :
    Calls Tryd.prog 83 #[.int .i64 sec, .int .i64 nsec] w fun e w' => e = .returned (.agg #[.int .i64 sec, .int .i64 nsec]) ∧ Below w.heap.size w w' := by
  have hd : decide (nsec < 0) = false := by simp; omega
  have hd2 : decide (1000000000 ≤ nsec) = false := by simp; omega
  go_enter Tryd.func83, Tryd.ntmps83
  go_wp2
  refine bodyPost_ret (results_cell0 rfl _ rfl (Blk.new w 87 [_, _]) Tryd.underlying87 rfl (by kernel_rfl)) rfl ?_
  exact ⟨rfl, (Below.refl _ w).alloc (Nat.le_refl _) _⟩

set_option maxHeartbeats 1000000 in
set_option maxRecDepth 100000 in
theorem At_neg (w : World) (sec nsec : Int) (h0 : -1000000000 < nsec) (h1 : nsec < 0) (hs0 : -10000000000000000 ≤ sec) (hs1 : sec ≤ 10000000000000000) :
    Calls Tryd.prog 83 #[.int .i64 sec, .int .i64 nsec] w fun e w' => e = .returned (.agg #[.int .i64 (sec - 1), .int .i64 (nsec + 1000000000)]) ∧ Below w.heap.size w w' := by
  have hd : decide (nsec < 0) = true := by simp; omega
  have ht := tdiv_small nsec h0 h1
  go_enter Tryd.func83, Tryd.ntmps83
  go_wp2
  refine bodyPost_ret (results_cell0 rfl _ rfl (Blk.new w 87 [_, _]) Tryd.underlying87 rfl (by kernel_rfl)) rfl ?_
  exact ⟨rfl, (Below.refl _ w).alloc (Nat.le_refl _) _⟩

set_option maxHeartbeats 1000000 in
set_option maxRecDepth 100000 in
theorem AtMilli_calls (w : World) (ms : Int) (h0 : -9223372036854775808 ≤ ms) (h1 : ms ≤ 9223372036854775807) :
    Calls Tryd.prog 45 #[.int .i64 ms] w fun e w' => e = .returned (.agg #[.int .i64 (ms / 1000), .int .i64 (ms % 1000 * 1000000)]) ∧ Below w.heap.size w w' := by
  by_cases hn : 0 ≤ ms
  · go_enter Tryd.func45, Tryd.ntmps45
    go_wp2_with (
      (go_at_call 83)
      go_must (
        (refine (At_pos _ _ _ (by omega) (by omega)).mono ?_)
        rintro e w1 ⟨rfl, hb1⟩
        have hblk := (Blk.new w 87 [.int .i64 0, .int .i64 0]).below hb1 (by simp)
        have q0 := hblk.cell 0
        have q1 := hblk.cell 1
        have f0 := hblk.frozen 0
        have f1 := hblk.frozen 1
        have HBLK := Lib.hid hblk
        have HB := Lib.hid hb1
        clear hblk hb1))
    refine bodyPost_ret (results_cell0 rfl _ rfl ((HBLK.out.set_ 0 _).set_ 1 _) Tryd.underlying87 rfl (by kernel_rfl)) rfl ?_
    exact ⟨rfl, ((((Below.refl _ w).alloc (Nat.le_refl _) _).trans (HB.out.mono (by simp))).setCell (Nat.le_refl _) _).setCell (Nat.le_refl _) _⟩
  · have ht := tdiv_neg ms 1000 (by omega)
    have hm := tmod_neg ms 1000 (by omega)
    obtain ⟨q, hq⟩ : ∃ q, q = (-ms) / 1000 := ⟨_, rfl⟩
    obtain ⟨r, hr⟩ : ∃ r, r = (-ms) % 1000 := ⟨_, rfl⟩
    rw [← hq] at ht
    rw [← hr] at hm
    have hr0 : 0 ≤ r := by omega
    have hr1 : r < 1000 := by omega
    have hq0 : 0 ≤ q := by omega
    have hq1 : q ≤ 9223372036854776 := by omega
    by_cases hz : r = 0
    · have e1 : ms / 1000 = -q := by omega
      have e2 : ms % 1000 = 0 := by omega
      rw [e1, e2]
      subst hz
      clear hq hr e1 e2
      go_enter Tryd.func45, Tryd.ntmps45
      go_wp2_with (
        (go_at_call 83)
        go_must (
          (refine (At_pos _ _ _ (by omega) (by omega)).mono ?_)
          rintro e w1 ⟨rfl, hb1⟩
          have hblk := (Blk.new w 87 [.int .i64 0, .int .i64 0]).below hb1 (by simp)
          have q0 := hblk.cell 0
          have q1 := hblk.cell 1
          have f0 := hblk.frozen 0
          have f1 := hblk.frozen 1
          have HBLK := Lib.hid hblk
          have HB := Lib.hid hb1
          clear hblk hb1))
      refine bodyPost_ret (results_cell0 rfl _ rfl ((HBLK.out.set_ 0 _).set_ 1 _) Tryd.underlying87 rfl (by kernel_rfl)) rfl ?_
      exact ⟨rfl, ((((Below.refl _ w).alloc (Nat.le_refl _) _).trans (HB.out.mono (by simp))).setCell (Nat.le_refl _) _).setCell (Nat.le_refl _) _⟩
    · have e1 : ms / 1000 = -q - 1 := by omega
      have e2 : ms % 1000 * 1000000 = -r * 1000000 + 1000000000 := by omega
      rw [e1, e2]
      clear hq hr e1 e2
      go_enter Tryd.func45, Tryd.ntmps45
      go_wp2_with (
        (go_at_call 83)
        go_must (
          (refine (At_neg _ _ _ (by omega) (by omega) (by omega) (by omega)).mono ?_)
          rintro e w1 ⟨rfl, hb1⟩
          have hblk := (Blk.new w 87 [.int .i64 0, .int .i64 0]).below hb1 (by simp)
          have q0 := hblk.cell 0
          have q1 := hblk.cell 1
          have f0 := hblk.frozen 0
          have f1 := hblk.frozen 1
          have HBLK := Lib.hid hblk
          have HB := Lib.hid hb1
          clear hblk hb1))
      refine bodyPost_ret (results_cell0 rfl _ rfl ((HBLK.out.set_ 0 _).set_ 1 _) Tryd.underlying87 rfl (by kernel_rfl)) rfl ?_
      exact ⟨rfl, ((((Below.refl _ w).alloc (Nat.le_refl _) _).trans (HB.out.mono (by simp))).setCell (Nat.le_refl _) _).setCell (Nat.le_refl _) _⟩

set_option maxHeartbeats 1000000 in
set_option maxRecDepth 100000 in
theorem UnixMilli_calls (w : World) (ms : Int) (h0 : -9223372036854775808 ≤ ms) (h1 : ms ≤ 9223372036854775807) :
    Calls Tryd.prog 110 #[.agg #[.int .i64 (ms / 1000), .int .i64 (ms % 1000 * 1000000)]] w fun e w' => e = .returned (.int .i64 ms) ∧ Below w.heap.size w w' := by
  have hd : ms % 1000 * 1000000 / 1000000 = ms % 1000 := by omega
  go_enter Tryd.func110, Tryd.ntmps110
  go_wp2
  go_ret
  refine ⟨?_, (Below.refl _ w).alloc (Nat.le_refl _) _⟩
  have hw : wrap64 (wrap64 (ms / 1000 * 1000) + ms % 1000) = ms := by unfold wrap64; omega
  show Ending.returned (.int .i64 (wrap64 (wrap64 (ms / 1000 * 1000) + ms % 1000))) = _
  rw [hw]

theorem u64_wrap_range (x : Int) : 0 ≤ IntKind.u64.wrap x ∧ IntKind.u64.wrap x ≤ 18446744073709551615 := by rw [IntKind.wrap_u64]; omega

set_option maxHeartbeats 1000000 in
set_option maxRecDepth 100000 in
theorem writeTimestamp_calls (w0 w : World) (B gb : Nat) (ms : Int) (l : List Int) (h0 : -9223372036854775808 ≤ ms) (h1 : ms ≤ 9223372036854775807) (hb : Bw w0 w B gb l) (hs : l.length ≤ 900000) :
    Calls Tryd.prog 82 #[.pointer (some ⟨gb, 0, none⟩), .agg #[.int .i64 (ms / 1000), .int .i64 (ms % 1000 * 1000000)]] w fun e w' => e = .returned (.tuple #[]) ∧ Bw w0 w' B gb (l ++ 131 :: be (IntKind.u64.wrap ms) 8) ∧ KeepsB w w' gb := by
  have HB := Lib.hid hb
  have hgb := hb.lt
  have hr := u64_wrap_range ms
  obtain ⟨hr0, hr1⟩ := hr
  obtain ⟨x, hx⟩ : ∃ x, x = IntKind.u64.wrap ms := ⟨_, rfl⟩
  rw [← hx] at hr0 hr1 ⊢
  have HX := Lib.hid hx
  clear hb hx
  go_enter Tryd.func82, Tryd.ntmps82
  go_wp2_with (first
    | (go_at_call 78
       go_must (
         (refine (AppendByte_calls w0 _ B gb 131 l (HB.out.alloc _) (by omega)).mono ?_)
         rintro e w1 ⟨rfl, hb1, hk1⟩
         have hblk := hk1 w.heap.size 87 [.int .i64 (ms / 1000), .int .i64 (ms % 1000 * 1000000)] (Blk.new w _ [_, _]) (by decide) (by omega)
         have q0 := hblk.cell 0
         have q1 := hblk.cell 1
         have hz1 := hblk.lt
         have hcb := hb1.below
         have HB1 := Lib.hid hb1
         have HK1 := Lib.hid hk1
         clear hblk hb1 hk1 hcb))
    | (go_at_call 110
       go_must (
         (refine (UnixMilli_calls w1 ms h0 h1).mono ?_)
         rintro e w2 ⟨rfl, hb2⟩
         have HB2 := Lib.hid (HB1.out.more hb2)
         have HK2 : Hid (KeepsB w1 w2 gb) := KeepsB.of_below hb2
         clear hb2))
    | (go_at_call 86
       go_must (
         (try rw [← HX.out])
         (refine (AppendUint64_calls w0 w2 B gb x (l ++ [131]) hr0 hr1 HB2.out (by simp; omega)).mono ?_)
         rintro e w3 ⟨rfl, hb3, hk3⟩
         have HB3 := Lib.hid hb3
         have HK3 := Lib.hid hk3
         clear hb3 hk3)))
  go_end0
  exact ⟨rfl, by have := HB3.out; rwa [List.append_assoc] at this, (((KeepsB.of_below ((Below.refl _ w).alloc (Nat.le_refl _) _)).trans HK1.out).trans HK2.out).trans HK3.out⟩

set_option maxHeartbeats 1000000 in
set_option maxRecDepth 100000 in
theorem WriteTimestamp_calls (w0 w : World) (B gb : Nat) (ms : Int) (l : List Int) (h0 : -9223372036854775808 ≤ ms) (h1 : ms ≤ 9223372036854775807) (hb : Bw w0 w B gb l) (hs : l.length ≤ 900000) :
    Calls Tryd.prog 44 #[.pointer (some ⟨gb, 0, none⟩), .agg #[.int .i64 (ms / 1000), .int .i64 (ms % 1000 * 1000000)]] w fun e w' => e = .returned (.tuple #[]) ∧ Bw w0 w' B gb (l ++ 131 :: be (IntKind.u64.wrap ms) 8) := by
  have HB := Lib.hid hb
  have hgb := hb.lt
  clear hb
  go_enter Tryd.func44, Tryd.ntmps44
  go_wp2_with (
    (go_at_call 82)
    go_must (
      (refine (writeTimestamp_calls w0 _ B gb ms l h0 h1 (HB.out.alloc _) hs).mono ?_)
      rintro e w1 ⟨rfl, hb1, hk1⟩
      have HB1 := Lib.hid hb1
      clear hb1 hk1))
  go_end0
  exact ⟨rfl, HB1.out⟩

/-- A call wrote bytes of its own, and says so. -/
def Told (w : World) (l : List Int) (e : Ending) (w' : World) : Prop :=
  ∃ g cs, e = .returned (.tuple #[.slice (some ⟨g, 0, none⟩) l.length cs.length, .bool true]) ∧ Blk w' g 5 cs ∧ l.length ≤ cs.length ∧ cs.length ≤ maxLen ∧ cs.take l.length = bs l ∧ w.heap.size ≤ g ∧ Below w.heap.size w w'
/-- The two cells of the results, and the Buffer behind them. -/
theorem two_cells {w W W' : World} {t1 t2 : TypeId} {a b : Value} (hb : Below (w.heap.size + 1 + 1) ((w.alloc (.cells #[a] t1)).alloc (.cells #[b] t2)) W') :
    Blk W' w.heap.size t1 [a] ∧ Blk W' (w.heap.size + 1) t2 [b] := by
  refine ⟨((Blk.new w t1 [a]).alloc _).below hb (by omega), ?_⟩
  have := Blk.new (w.alloc (.cells #[a] t1)) t2 [b]
  rw [show (w.alloc (.cells #[a] t1)).heap.size = w.heap.size + 1 by simp] at this
  exact this.below hb (by omega)

set_option maxHeartbeats 1000000 in
set_option maxRecDepth 100000 in
theorem implWriteTimestamp_calls (w : World) (ms : Int) (h0 : -9223372036854775808 ≤ ms) (h1 : ms ≤ 9223372036854775807) :
    Calls Tryd.prog 15 #[.int .i64 ms] w (Told w (131 :: be (IntKind.u64.wrap ms) 8)) := by
  obtain ⟨w0, hw0⟩ : ∃ w0, w0 = ((w.alloc (.cells #[.slice none 0 0] 22)).alloc (.cells #[.bool false] 4)) := ⟨_, rfl⟩
  have hsz : w0.heap.size = w.heap.size + 1 + 1 := by rw [hw0]; simp
  have hbel0 : Below w.heap.size w w0 := by rw [hw0]; exact ((Below.refl _ w).alloc (Nat.le_refl _) _).alloc (by simp) _
  have HW0 := Lib.hid hw0
  have HSZ := Lib.hid hsz
  have HBEL0 := Lib.hid hbel0
  have hbn := bw_new w0
  rw [hw0] at hbn
  rw [← hw0, hsz] at hbn
  have HBN := Lib.hid hbn
  obtain ⟨L, hL⟩ : ∃ L, L = 131 :: be (IntKind.u64.wrap ms) 8 := ⟨_, rfl⟩
  have hLl : L.length = 9 := by rw [hL]; simp [be_length]
  rw [← hL]
  have HL := Lib.hid hL
  have HLL := Lib.hid hLl
  clear hw0 hsz hbel0 hbn hL hLl
  go_enter_defers Tryd.func15, Tryd.ntmps15
  go_wp2_with (first
    | (go_at_call 45
       go_must (
         (refine (AtMilli_calls _ ms h0 h1).mono ?_)
         rintro e w2 ⟨rfl, hb2⟩
         rw [← HW0.out] at hb2
         have HB2 := Lib.hid (HBN.out.more hb2)
         clear hb2))
    | (go_at_call 44
       go_must (
         (refine (WriteTimestamp_calls w0 w2 (w.heap.size + 1 + 1) (w.heap.size + 1 + 1) ms [] h0 h1 HB2.out (by simp)).mono ?_)
         rintro e w3 ⟨rfl, hb3⟩
         rw [List.nil_append, ← HL.out] at hb3
         have HB3 := Lib.hid hb3
         clear hb3))
    | (go_at_call 42
       go_must (
         (refine (Bytes_all w0 w3 _ _ L HB3.out (by rw [HLL.out]; omega)).mono ?_)
         rintro e w4 ⟨⟨g4, c4, rfl, hr4⟩, n4, rfl⟩
         have HR4 := Lib.hid hr4
         clear hr4))
    | (go_at_call 41
       go_must (
         (have hc := copied_calls (w3.drewN n4) (some ⟨g4, 0, none⟩) c4 (bs L) (by rw [bs_length]; exact HR4.out) (bs_one _) (by rw [bs_length, HLL.out]; omega))
         rw [bs_length] at hc
         refine hc.mono ?_
         rintro e w5 ⟨g5, cs5, rfl, hb5, hcs5, hcm5, ht5, hB5, hbel5⟩
         rw [bs_length] at hcs5 ht5
         rw [bs_length]
         have hbel6 := HB3.out.below.trans ((below_drewN (Below.refl _ w3) n4).trans hbel5 |>.mono (Nat.le_of_lt HB3.out.lt))
         have hbel7 := hbel6
         rw [HW0.out] at hbel7
         obtain ⟨k0, k1⟩ := two_cells (W := w) hbel7
         have r0 := k0.cell 0
         have r1 := k1.cell 0
         have f0 := k0.frozen 0
         have f1 := k1.frozen 0
         have z0 := k0.lt
         have z1 := k1.lt
         have hg5 : w.heap.size + 1 + 1 < g5 := Nat.lt_of_lt_of_le HB3.out.lt hB5
         have K0 := Lib.hid k0
         have K1 := Lib.hid k1
         have H5 := Lib.hid hb5
         have HT5 := Lib.hid ht5
         have HC5 := Lib.hid hcs5
         have HBEL6 := Lib.hid hbel6
         clear k0 k1 hb5 ht5 hbel5 hbel6 hbel7 hc hB5 hcs5)))
  refine leaves_cons (f := 38) (args := #[.pointer (some ⟨w.heap.size, 0, none⟩), .pointer (some ⟨w.heap.size + 1, 0, none⟩)]) (by simp) (by simp [go_sem]) ?_
  refine (noData_idle _ _ _).mono ?_
  rintro e u' w'' ⟨rfl, rfl, rfl⟩
  have s0 : ((w5.setCell ⟨w.heap.size, 0, none⟩ (.slice (some ⟨g5, 0, none⟩) L.length cs5.length)).setCell ⟨w.heap.size + 1, 0, none⟩ (.bool true)).cell? ⟨w.heap.size, 0, none⟩ = some (.slice (some ⟨g5, 0, none⟩) L.length cs5.length) := ((K0.out.set_ 0 _).far (p := ⟨w.heap.size + 1, 0, none⟩) (by simp) _).cell 0
  have s1 : ((w5.setCell ⟨w.heap.size, 0, none⟩ (.slice (some ⟨g5, 0, none⟩) L.length cs5.length)).setCell ⟨w.heap.size + 1, 0, none⟩ (.bool true)).cell? ⟨w.heap.size + 1, 0, none⟩ = some (.bool true) := ((K1.out.far (p := ⟨w.heap.size, 0, none⟩) (by simp) _).set_ 0 _).cell 0
  refine ⟨_, by simp [results, Tryd.results15, go_sem, s0, s1], g5, cs5, rfl, (H5.out.far (by simp; omega) _).far (by simp; omega) _, HC5.out, hcm5, HT5.out, by omega, ?_⟩
  exact ((HBEL0.out.trans (HBEL6.out.mono (by omega))).setCell (by simp) _).setCell (by simp) _
end Go.Proofs.YtpkfmcnbodnpeaaDoor
