/- AMQP: the reference's take, TakeValue at numbers and at sixteen bytes; SameValue and wrote of values without others in them. PRINTED by wip/genvd.py. -/
import Derived.Test.YtephkecfpepmpaaGreatDoorVc
import Derived.Laws.BytesArg
namespace Go.Proofs.YtephkecfpepmpaaGreatDoor
open Go.RowKit Go.Maps
set_option linter.unusedVariables false

def zv : List Value := [.int .i64 0, .int .u64 0, .string ByteArray.empty, .slice none 0 0, .int .i64 0, .slice none 0 0]
/-- The blocks that 'take' lays first. -/
theorem take_blks {w W1 : World} {o : List Value} (hb : Below (w.heap.size + 1 + 1 + 1) (((w.alloc (.cells o.toArray 75)).alloc (.cells zv.toArray 30)).alloc (.cells zv.toArray 30)) W1) :
    Blk W1 w.heap.size 75 o ∧ Blk W1 (w.heap.size + 1) 30 zv ∧ Blk W1 (w.heap.size + 1 + 1) 30 zv ∧ Below w.heap.size w W1 := by
  refine ⟨(((Blk.new w 75 o).alloc _).alloc _).below hb (by omega), ?_, ?_, ?_⟩
  · have := (Blk.new (w.alloc (.cells o.toArray 75)) 30 zv).alloc (.cells zv.toArray 30)
    rw [show (w.alloc (.cells o.toArray 75)).heap.size = w.heap.size + 1 by simp] at this
    exact this.below hb (by omega)
  · have := Blk.new ((w.alloc (.cells o.toArray 75)).alloc (.cells zv.toArray 30)) 30 zv
    rw [show ((w.alloc (.cells o.toArray 75)).alloc (.cells zv.toArray 30)).heap.size = w.heap.size + 1 + 1 by simp] at this
    exact this.below hb (by omega)
  · exact ((((Below.refl _ w).alloc (Nat.le_refl _) _).alloc (by simp) _).alloc (by simp; omega) _).trans (hb.mono (by omega))

set_option maxHeartbeats 4000000 in
set_option maxRecDepth 100000 in
theorem take_num (w : World) (B c sz : Nat) (A : Option Addr) (b k lv : Int) (r : List Int) (h : Reads w B 1 A r.length (bs r)) (hB : B ≤ w.heap.size) (hl : IsB r) (hb0 : 0 < b) (hb1 : b ≤ 255) (hc : r.length ≤ c) (hm : c ≤ maxLen)
    (hkd : look2 KINDS b (.lit (.int .i64 0)) = pairD k sz) (hk2 : 2 ≤ k) (hk17 : k ≤ 17) (hks : k < 6 ∨ 9 < k) (hsz : sz ≤ 8) (hb69 : b ≠ 69) (hr : sz ≤ r.length) :
    Calls Tryz.prog 30 #[.agg #[.slice none 0 0, .int .i64 b], .slice A r.length c, .int .i64 lv] w (Tk w B (vl k (valBE (r.take sz)) ByteArray.empty) (r.drop sz)) := by
  obtain ⟨A2, c2, hl2, hc2, hr2, hcall⟩ := takeBig_abs B c sz (sz : Int) rfl A r hl hsz hr hc hm
  obtain ⟨U, hU⟩ : ∃ U, U = valBE (r.take sz) := ⟨_, rfl⟩
  obtain ⟨R2, hR2⟩ : ∃ R2, R2 = r.drop sz := ⟨_, rfl⟩
  rw [← hU, ← hR2] at hcall ⊢
  rw [← hR2] at hl2 hr2
  have HCALL := Lib.hid hcall
  have HR2 := Lib.hid hr2
  have H := Lib.hid h
  have HKD := Lib.hid hkd
  have e1 : ((sz : Int) == 16) = false := by simp; omega
  have e2 : (k == 0) = false := by simp; omega
  have e3 : (b == 69) = false := by simpa using hb69
  have e4 : (k == 1) = false := by simp; omega
  have e5 : decide (21 ≤ k) = false := by simp; omega
  have e6 : decide (18 ≤ k) = false := by simp; omega
  have e7 : k < 6 → decide (6 ≤ k) = false := fun h => by simp; omega
  have e8 : 9 < k → decide (6 ≤ k) = true ∧ decide (k ≤ 9) = false := fun h => by simp; omega
  clear hcall hr2 h hkd hb69 hU hR2
  rcases hks with hks | hks
  · have e9 := e7 hks
    clear e7 e8
    go_enter Tryz.func30, Tryz.ntmps30
    go_wp2_with (first
      | (go_at_call 66
         go_must (
           (refine (kindOf_yes _ b k sz (by omega) (by omega) HKD.out).mono ?_)
           rintro e w1 ⟨rfl, hb1'⟩
           obtain ⟨p0, p1, p2, hbel⟩ := take_blks (w := w) (o := [.slice none 0 0, .int .i64 b]) (hb1'.mono (by simp))
           have q0 := p0.cell 0
           have q1 := p0.cell 1
           have z0 := p0.lt
           obtain ⟨s0, s1, s2, s3, s4, s5⟩ := blk_cells6 p1
           obtain ⟨f0, f1, f2, f3, f4, f5⟩ := blk_froz6 p1
           have z1 := p1.lt
           have P1 := Lib.hid p1
           have HBEL := Lib.hid hbel
           clear hb1' p0 p1 p2 hbel))
      | (go_at_call 67
         go_must (
           (refine (HCALL.out _ ((H.out.below (HBEL.out.mono hB)).alloc (by omega) _)).mono ?_)
           rintro e w2 ⟨rfl, n2, rfl⟩)))
    have hww1 : w.heap.size ≤ w1.heap.size := by omega
    have hbw1 : B ≤ w1.heap.size := by omega
    refine bodyPost_ret (results_cell2 rfl _ rfl (blk_set6 (((P1.out.alloc _).drewN n2).far (p := ⟨w1.heap.size, 1, none⟩) (Nat.ne_of_lt z1) _) _ _ _ _ _ _) Tryz.underlying30 rfl (by kernel_rfl)) rfl ?_
    exact ⟨_, _, rfl, by omega, by omega, reads_set6 (((((HR2.out w H.out).below (HBEL.out.mono hB)).alloc hbw1 _).drewN n2).setCell (p := ⟨w1.heap.size, 1, none⟩) hbw1 _) (Nat.le_trans hB (Nat.le_add_right _ 1)) _ _ _ _ _ _, bel_set6 ((below_drewN (HBEL.out.alloc hww1 _) n2).setCell (p := ⟨w1.heap.size, 1, none⟩) hww1 _) (Nat.le_add_right _ 1) _ _ _ _ _ _⟩
  · obtain ⟨e9, e10⟩ := e8 hks
    clear e7 e8
    go_enter Tryz.func30, Tryz.ntmps30
    go_wp2_with (first
      | (go_at_call 66
         go_must (
           (refine (kindOf_yes _ b k sz (by omega) (by omega) HKD.out).mono ?_)
           rintro e w1 ⟨rfl, hb1'⟩
           obtain ⟨p0, p1, p2, hbel⟩ := take_blks (w := w) (o := [.slice none 0 0, .int .i64 b]) (hb1'.mono (by simp))
           have q0 := p0.cell 0
           have q1 := p0.cell 1
           have z0 := p0.lt
           obtain ⟨s0, s1, s2, s3, s4, s5⟩ := blk_cells6 p1
           obtain ⟨f0, f1, f2, f3, f4, f5⟩ := blk_froz6 p1
           have z1 := p1.lt
           have P1 := Lib.hid p1
           have HBEL := Lib.hid hbel
           clear hb1' p0 p1 p2 hbel))
      | (go_at_call 67
         go_must (
           (refine (HCALL.out _ ((H.out.below (HBEL.out.mono hB)).alloc (by omega) _)).mono ?_)
           rintro e w2 ⟨rfl, n2, rfl⟩)))
    have hww1 : w.heap.size ≤ w1.heap.size := by omega
    have hbw1 : B ≤ w1.heap.size := by omega
    refine bodyPost_ret (results_cell2 rfl _ rfl (blk_set6 (((P1.out.alloc _).drewN n2).far (p := ⟨w1.heap.size, 1, none⟩) (Nat.ne_of_lt z1) _) _ _ _ _ _ _) Tryz.underlying30 rfl (by kernel_rfl)) rfl ?_
    exact ⟨_, _, rfl, by omega, by omega, reads_set6 (((((HR2.out w H.out).below (HBEL.out.mono hB)).alloc hbw1 _).drewN n2).setCell (p := ⟨w1.heap.size, 1, none⟩) hbw1 _) (Nat.le_trans hB (Nat.le_add_right _ 1)) _ _ _ _ _ _, bel_set6 ((below_drewN (HBEL.out.alloc hww1 _) n2).setCell (p := ⟨w1.heap.size, 1, none⟩) hww1 _) (Nat.le_add_right _ 1) _ _ _ _ _ _⟩


set_option maxHeartbeats 4000000 in
set_option maxRecDepth 100000 in
theorem TakeValue_of (w : World) (B c : Nat) (A : Option Addr) (b lv k u : Int) (s : ByteArray) (r l : List Int) (h : Reads w B 1 A (r.length + 1) (bs (b :: r))) (hB : B ≤ w.heap.size) (hb0 : 0 < b) (hb1 : b ≤ 255) (hc : r.length + 1 ≤ c) (hm : c ≤ maxLen) (hlv : 0 < lv)
    (htake : ∀ (W : World) (A : Option Addr) (c : Nat), Reads W B 1 A r.length (bs r) → B ≤ W.heap.size → r.length ≤ c → c ≤ maxLen → Calls Tryz.prog 30 #[.agg #[.slice none 0 0, .int .i64 b], .slice A r.length c, .int .i64 lv] W (Tk W B (vl k u s) l)) :
    Calls Tryz.prog 17 #[.slice A (r.length + 1) c, .int .i64 lv] w (Tk w B (vl k u s) l) := by
  have H := Lib.hid h
  have HT := Lib.hid htake
  clear h htake
  go_enter Tryz.func17, Tryz.ntmps17
  go_wp2_with (first
    | (go_at_call 29
       go_must (
         (refine (takeConstructor_plain _ B c A b lv r (H.out.alloc hB _) (by simp; omega) hb0 hb1 hc hm hlv).mono ?_)
         rintro e w1 ⟨A1, c1, rfl, hl1, hm1, hr1, hb1'⟩
         have hp := (Blk.new w 30 zv).below hb1' (by simp)
         have hbel : Below w.heap.size w w1 := ((Below.refl _ w).alloc (Nat.le_refl _) _).trans (hb1'.mono (by simp))
         have z1 := hp.lt
         have HP := Lib.hid hp
         have HBEL := Lib.hid hbel
         have HR1 := Lib.hid hr1
         clear hp hbel hb1' hr1))
    | (go_at_call 30
       go_must (
         (refine (HT.out _ A1 c1 (HR1.out.alloc (by omega) _) (by simp; omega) hl1 hm1).mono ?_)
         rintro e w2 ⟨A2, c2, rfl, hl2, hm2, hr2, hb2⟩
         unfold vl
         have hp2 := (HP.out.alloc (.cells #[.slice none 0 0, .int .i64 b] 75)).below hb2 (by simp; omega)
         obtain ⟨s0, s1, s2, s3, s4, s5⟩ := blk_cells6 hp2
         obtain ⟨f0, f1, f2, f3, f4, f5⟩ := blk_froz6 hp2
         have z2 := hp2.lt
         have hbel2 : Below w.heap.size w w2 := (HBEL.out.alloc (by omega) _).trans (hb2.mono (by simp; omega))
         have HP2 := Lib.hid hp2
         have HBEL2 := Lib.hid hbel2
         have HR2 := Lib.hid hr2
         clear hp2 hbel2 hb2 hr2)))
  refine bodyPost_ret (results_cell2 rfl _ rfl (blk_set6 HP2.out _ _ _ _ _ _) Tryz.underlying30 rfl (by kernel_rfl)) rfl ?_
  exact ⟨A2, c2, rfl, hl2, hm2, reads_set6 HR2.out hB _ _ _ _ _ _, bel_set6 HBEL2.out (Nat.le_refl _) _ _ _ _ _ _⟩

set_option maxHeartbeats 2000000 in
set_option maxRecDepth 100000 in
theorem SameValue_flat (w : World) (k u : Int) (s : ByteArray) :
    Calls Tryz.prog 18 #[vl k u s, vl k u s] w fun e w' => e = .returned (.bool true) ∧ Below w.heap.size w w' := by
  unfold vl
  go_enter Tryz.func18, Tryz.ntmps18
  go_wp2
  refine wp_loop_rounds 1 ?_
  rw [rounds_succ]
  go_wp2
  go_quiet (fail)
  go_wp2
  go_ret
  exact ⟨rfl, by first | exact below_drewN (((Below.refl _ w).alloc (Nat.le_refl _) _).alloc (by simp) _) nq | exact ((Below.refl _ w).alloc (Nat.le_refl _) _).alloc (by simp) _⟩

set_option maxHeartbeats 4000000 in
set_option maxRecDepth 100000 in
theorem wrote_of (w : World) (B c : Nat) (A : Option Addr) (b k u : Int) (s : ByteArray) (r : List Int) (h : Reads w B 1 A (r.length + 1) (bs (b :: r))) (hB : B ≤ w.heap.size) (hb0 : 0 < b) (hb1 : b ≤ 255) (hc : r.length + 1 ≤ c) (hm : c ≤ maxLen)
    (htake : ∀ (W : World) (A : Option Addr) (c : Nat), Reads W B 1 A r.length (bs r) → B ≤ W.heap.size → r.length ≤ c → c ≤ maxLen → Calls Tryz.prog 30 #[.agg #[.slice none 0 0, .int .i64 b], .slice A r.length c, .int .i64 8] W (Tk W B (vl k u s) [])) :
    Calls Tryz.prog 7 #[.slice A (r.length + 1) c, .bool true, vl k u s] w fun e w' => e = .returned (.bool true) ∧ Below w.heap.size w w' := by
  have H := Lib.hid h
  have HT := Lib.hid htake
  clear h htake
  unfold vl
  go_enter Tryz.func7, Tryz.ntmps7
  go_wp2_with (first
    | (go_at_call 17
       go_must (
         (refine (TakeValue_of _ B c A b 8 k u s r [] (H.out.alloc hB _) (by simp; omega) hb0 hb1 hc hm (by omega) HT.out).mono ?_)
         rintro e w1 ⟨A1, c1, rfl, hl1, hm1, hr1, hb1'⟩
         unfold vl
         have hp := (Blk.new w 30 [.int .i64 k, .int .u64 u, .string s, .slice none 0 0, .int .i64 0, .slice none 0 0]).below hb1' (by simp)
         have hbel : Below w.heap.size w w1 := ((Below.refl _ w).alloc (Nat.le_refl _) _).trans (hb1'.mono (by simp))
         obtain ⟨s0, s1, s2, s3, s4, s5⟩ := blk_cells6 hp
         have z1 := hp.lt
         have HBEL := Lib.hid hbel
         clear hp hbel hb1' hr1))
    | (go_at_call 18
       go_must (
         (refine (SameValue_flat _ k u s).mono ?_)
         rintro e w2 ⟨rfl, hb2⟩
         have HB2 : Hid (Below w.heap.size w w2) := (HBEL.out.alloc (by omega) _).trans (hb2.mono (by simp; omega))
         clear hb2)))
  go_ret
  exact ⟨rfl, HB2.out⟩
end Go.Proofs.YtephkecfpepmpaaGreatDoor
