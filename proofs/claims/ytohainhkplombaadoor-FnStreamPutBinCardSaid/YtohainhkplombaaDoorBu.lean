/- msgp's Writer.Write, where the buffer has no room: flush, then the buffer or the Text. PRINTED by wip/genbx.py. -/
import Derived.Test.YtohainhkplombaaDoorBx
namespace Go.Proofs.YtohainhkplombaaDoor
open Go.RowKit
set_option linter.unusedVariables false

set_option maxHeartbeats 4000000 in
set_option maxRecDepth 100000 in
theorem Write_flush (w0 W : World) (B gw gb gt c : Nat) (cs : List Value) (v : Value) (out pend r : List Int) (A : Option Addr) (h : WP w0 W B gw gb gt cs v out pend) (hr : Reads W W.heap.size 1 A r.length (bs r)) (hA : Far gw gb gt v A r.length) (hn : out.length + pend.length + r.length ≤ 1099511627776) (hno : ¬ pend.length + r.length ≤ cs.length) (hfit : r.length ≤ cs.length) :
    Calls Tryd.prog 18 #[.pointer (some ⟨gw, 0, none⟩), .slice A r.length c] W (WrPost w0 B gw gb gt cs.length r.length (out ++ pend ++ r)) := by
  have HW := Lib.hid h
  have HR := Lib.hid hr
  have HA := Lib.hid hA
  have hle := h.le
  have hlo := h.lo
  have hhi := h.hi
  obtain ⟨q0, q1, q2⟩ := wp_cells h
  have hd : decide ((cs.length : Int) - (pend.length : Int) < (r.length : Int)) = true := decide_eq_true (by omega)
  have hd2 : decide ((cs.length : Int) < (r.length : Int)) = false := decide_eq_false (by omega)
  have hcp : ¬ cs.length = 0 := by omega
  have hj3 : IntKind.i64.wrap (0 + (r.length : Int)) = (r.length : Int) := by rw [IntKind.wrap_i64]; omega
  have hj4 : IntKind.i64.wrap (r.length : Int) = (r.length : Int) := by rw [IntKind.wrap_i64]; omega
  clear h hr hA
  go_enter Tryd.func18, Tryd.ntmps18
  go_wp2_with (first
      | (go_at_call 27
         go_must (
           (refine (avail_calls w0 _ B gw gb gt cs v out pend (HW.out)).mono ?_)
           rintro e w' ⟨rfl, n, rfl⟩))
      | (go_at_call 23
         go_must (
           (refine (flush_f w0 (W.drewN n) B gw gb gt cs v out pend (wp_drewN HW.out n) (by omega)).mono ?_)
           rintro e W1 ⟨rfl, v1, hwp1, hfr1⟩
           have hf := hfr1.drewN
           have HW1 := Lib.hid hwp1
           have HR1 := Lib.hid (HA.out.reads HR.out hf)
           obtain ⟨u0, u1, u2⟩ := wp_cells hwp1
           clear hwp1 hfr1 hf q0 q1 q2)))
  go_region_law (
    (refine step_copy_g rfl (.tmp 46) (.tmp 47) 24 24 rfl 5 Tryd.underlying24 (by kernel_rfl) _ _ _ _ _ _ rfl rfl gb 0 cs 5 (HW1.out.buf.drewN 1) (bs r) ?_ ?_ ?_ (bs_one r) ?_
     · rw [bs_length]; exact (Nat.min_eq_left (by omega)).symm
     · intro h0
       rw [bs_length] at h0
       obtain ⟨ad, hA, _, hc⟩ := HR1.out.2 h0
       exact ⟨by first | rfl | (exfalso; omega), ad, hA, hc⟩
     · rw [bs_length]; omega
     rw [bs_length]
     intro W2 HB2 hg2
     obtain ⟨p0, p1, p2⟩ := wr_kept (n := 1) HW1.out hg2
     have fz := wr_frozen (n := 1) HW1.out hg2
     have HG2 := Lib.hid hg2
     clear hg2))
  all_goals
    try go_wp2
    go_ret2
    exact ⟨rfl, splice cs 0 (bs r), v1, out ++ pend, [] ++ r, length_splice _ _ _ (by rw [bs_length]; omega), wp_wrote HW1.out r (by simp; omega) (1) HB2.out HG2.out _ (by simp [hj4]), by simp⟩

theorem nil_ahead' (a : Addr) (w : World) (fuel : Nat) : (nilAhead (fuel + 1) 46 (.pointer (some a)) "Write").run Tryd.prog w = .ok (some false) w := nil_ahead a w fuel
set_option maxHeartbeats 4000000 in
set_option maxRecDepth 100000 in
theorem Write_big (w0 W : World) (B gw gb gt c : Nat) (cs : List Value) (v : Value) (out pend r : List Int) (A : Option Addr) (h : WP w0 W B gw gb gt cs v out pend) (hr : Reads W W.heap.size 1 A r.length (bs r)) (hA : Far gw gb gt v A r.length) (hn : out.length + pend.length + r.length ≤ 1099511627776) (hno : ¬ r.length ≤ cs.length) :
    Calls Tryd.prog 18 #[.pointer (some ⟨gw, 0, none⟩), .slice A r.length c] W (WrPost w0 B gw gb gt cs.length r.length (out ++ pend ++ r)) := by
  have HW := Lib.hid h
  have HR := Lib.hid hr
  have HA := Lib.hid hA
  have hle := h.le
  have hlo := h.lo
  have hhi := h.hi
  obtain ⟨q0, q1, q2⟩ := wp_cells h
  have hd : decide ((cs.length : Int) - (pend.length : Int) < (r.length : Int)) = true := decide_eq_true (by omega)
  have hd2 : decide ((cs.length : Int) < (r.length : Int)) = true := decide_eq_true (by omega)
  have hna := fun w fuel => nil_ahead ⟨gt, 0, none⟩ w fuel
  have hmw := fun w fuel => method_write ⟨gt, 0, none⟩ w fuel
  clear h hr hA
  go_enter Tryd.func18, Tryd.ntmps18
  go_wp2_with (first
      | (go_at_call 27
         go_must (
           (refine (avail_calls w0 _ B gw gb gt cs v out pend (HW.out)).mono ?_)
           rintro e w' ⟨rfl, n, rfl⟩))
      | (go_at_call 23
         go_must (
           (refine (flush_f w0 (W.drewN n) B gw gb gt cs v out pend (wp_drewN HW.out n) (by omega)).mono ?_)
           rintro e W1 ⟨rfl, v1, hwp1, hfr1⟩
           have hf := hfr1.drewN
           have HW1 := Lib.hid hwp1
           have HR1 := Lib.hid (HA.out.reads HR.out hf)
           obtain ⟨u0, u1, u2⟩ := wp_cells hwp1
           clear hwp1 hfr1 hf q0 q1 q2))
      | (go_at_call 45
         go_must (
           (refine (textWrite_calls w0 W1 B gt W1.heap.size c v1 A (out ++ pend) r HW1.out.txt HW1.out.own HR1.out HW1.out.bt HW1.out.bel HW1.out.bsz (by rw [List.length_append]; omega)).mono ?_)
           rintro e W2 ⟨v2, rfl, hb2, ho2, hfr2, hat2, hbel2, hsz2⟩
           have HW2 := Lib.hid (text_after HW1.out hb2 ho2 hfr2 hat2 hbel2 hsz2)
           clear hb2 ho2 hfr2 hat2 hbel2 hsz2)))
  go_ret2
  exact ⟨rfl, cs, v2, out ++ pend ++ r, [], rfl, HW2.out, by simp⟩
theorem Write_calls (w0 W : World) (B gw gb gt c : Nat) (cs : List Value) (v : Value) (out pend r : List Int) (A : Option Addr) (h : WP w0 W B gw gb gt cs v out pend) (hr : Reads W W.heap.size 1 A r.length (bs r)) (hA : Far gw gb gt v A r.length) (hn : out.length + pend.length + r.length ≤ 1099511627776) :
    Calls Tryd.prog 18 #[.pointer (some ⟨gw, 0, none⟩), .slice A r.length c] W (WrPost w0 B gw gb gt cs.length r.length (out ++ pend ++ r)) := by
  by_cases h1 : pend.length + r.length ≤ cs.length
  · exact Write_fits w0 W B gw gb gt c cs v out pend r A h hr hn h1
  · by_cases h2 : r.length ≤ cs.length
    · exact Write_flush w0 W B gw gb gt c cs v out pend r A h hr hA hn h1 h2
    · exact Write_big w0 W B gw gb gt c cs v out pend r A h hr hA hn h2
end Go.Proofs.YtohainhkplombaaDoor
