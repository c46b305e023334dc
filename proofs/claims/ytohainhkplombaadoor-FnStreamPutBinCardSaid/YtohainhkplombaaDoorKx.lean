/- msgp's Writer: push, prefix8, 16, 32, 64: what was written so far grows by what is written. PRINTED by wip/genw.py. -/
import Derived.Test.YtohainhkplombaaDoorKw
import Derived.RegionTactic
import Derived.BigRegion
import Derived.ChangeAlike
namespace Go.Proofs.YtohainhkplombaaDoor
open Go.RowKit
set_option linter.unusedVariables false

theorem splice_take (cs : List Value) (n : Nat) (news : List Value) (h : n + news.length ≤ cs.length) : (splice cs n news).take (n + news.length) = cs.take n ++ news := by
  unfold splice
  rw [← List.append_assoc, List.take_left' (by simp; omega)]

/-- A Writer's call returned no error; so much is written, in all. -/
def WPost (w0 : World) (B gw gb gt N : Nat) (tot : List Int) (e : Ending) (W' : World) : Prop :=
  e = .returned .nilIface ∧ ∃ cs v out pend, cs.length = N ∧ WP w0 W' B gw gb gt cs v out pend ∧ out ++ pend = tot

theorem wp_cells {w0 W : World} {B gw gb gt : Nat} {cs : List Value} {v : Value} {out pend : List Int} (h : WP w0 W B gw gb gt cs v out pend) :
    W.cell? ⟨gw, 0, none⟩ = some (.iface 46 (.pointer (some ⟨gt, 0, none⟩))) ∧ W.cell? ⟨gw, 1, none⟩ = some (.slice (some ⟨gb, 0, none⟩) cs.length cs.length) ∧ W.cell? ⟨gw, 2, none⟩ = some (.int .i64 pend.length) :=
  ⟨h.wr.cell 0, h.wr.cell 1, h.wr.cell 2⟩

/-- Behind a write into the buffer, and the counter's rise. -/
theorem wp_wrote {w0 W W1 : World} {B gw gb gt : Nat} {cs : List Value} {v : Value} {out pend : List Int} (h : WP w0 W B gw gb gt cs v out pend) (news : List Int) (hroom : pend.length + news.length ≤ cs.length) (n : Nat)
    (hb : Blk W1 gb 5 (splice cs pend.length (bs news))) (hg : (W.drewN n).grownBy W1 (some gb)) (k : Int) (hk : k = (pend.length : Int) + (news.length : Int)) :
    WP w0 (W1.setCell ⟨gw, 2, none⟩ (.int .i64 k)) B gw gb gt (splice cs pend.length (bs news)) v out (pend ++ news) := by
  subst hk
  have hl : (splice cs pend.length (bs news)).length = cs.length := length_splice _ _ _ (by rw [bs_length]; exact hroom)
  have e1 : gb ≠ gw := h.buf.ne_ h.wr (by decide)
  have e2 : gt ≠ gw := h.txt.ne_ h.wr (by decide)
  have e3 : gt ≠ gb := h.txt.ne_ h.buf (by decide)
  have wr1 : Blk W1 gw 63 _ := (h.wr.drewN n).grown hg (fun e => e1 (by injection e with e; exact e.symm))
  have tx1 : Blk W1 gt 44 _ := (h.txt.drewN n).grown hg (fun e => e3 (by injection e))
  have ow1 : W1.ownsRow B 5 1 v out.length (bs out) := World.ownsRow.kept (w := W.drewN n) h.own hg (.inr h.ne)
  have t := splice_take cs pend.length (bs news) (by rw [bs_length]; exact hroom)
  rw [bs_length] at t
  refine ⟨?_, hb.far e1 _, ?_, ?_, ?_, ?_, tx1.far e2 _, ownsRow_set ow1 (own_blk_ne ow1 wr1 (by decide)) _, h.ne, h.bw, h.bb, h.bt, ?_, ?_⟩
  · have := wr1.set_ 2 (.int .i64 ((pend.length : Int) + (news.length : Int)))
    rw [hl]
    simpa using this
  · rw [List.length_append, t, h.tk, bs_append]
  · rw [hl, List.length_append]; exact hroom
  · rw [hl]; exact h.lo
  · rw [hl]; exact h.hi
  · exact ((below_drewN h.bel n).grown hg h.bsz (fun k hk => by injection hk with e; rw [← e]; exact h.bb)).setCell (p := ⟨gw, 2, none⟩) h.bw _
  · have h1 := hg.size
    have h2 := h.bsz
    have h3 : (W.drewN n).heap.size = W.heap.size := rfl
    simp only [World.setCell, Array.size_modify]
    omega

theorem wp_drewN {w0 W : World} {B gw gb gt : Nat} {cs : List Value} {v : Value} {out pend : List Int} (h : WP w0 W B gw gb gt cs v out pend) (n : Nat) : WP w0 (W.drewN n) B gw gb gt cs v out pend :=
  ⟨h.wr.drewN n, h.buf.drewN n, h.tk, h.le, h.lo, h.hi, h.txt.drewN n, h.own, h.ne, h.bw, h.bb, h.bt, below_drewN h.bel n, h.bsz⟩
theorem wr_blk1 {w0 W W2 : World} {B gw gb gt n : Nat} {cs : List Value} {v : Value} {out pend : List Int} (h : WP w0 W B gw gb gt cs v out pend) (hg : (W.drewN n).grownBy W2 (some gb)) : Blk W2 gw 63 [.iface 46 (.pointer (some ⟨gt, 0, none⟩)), .slice (some ⟨gb, 0, none⟩) cs.length cs.length, .int .i64 pend.length] :=
  (h.wr.drewN n).grown hg (fun e => (h.buf.ne_ h.wr (by decide)) (by injection e with e; exact e.symm))
theorem wr_kept {w0 W W2 : World} {B gw gb gt n : Nat} {cs : List Value} {v : Value} {out pend : List Int} (h : WP w0 W B gw gb gt cs v out pend) (hg : (W.drewN n).grownBy W2 (some gb)) :
    W2.cell? ⟨gw, 0, none⟩ = some (.iface 46 (.pointer (some ⟨gt, 0, none⟩))) ∧ W2.cell? ⟨gw, 1, none⟩ = some (.slice (some ⟨gb, 0, none⟩) cs.length cs.length) ∧ W2.cell? ⟨gw, 2, none⟩ = some (.int .i64 pend.length) :=
  ⟨(wr_blk1 h hg).cell 0, (wr_blk1 h hg).cell 1, (wr_blk1 h hg).cell 2⟩
theorem wr_frozen {w0 W W2 : World} {B gw gb gt n : Nat} {cs : List Value} {v : Value} {out pend : List Int} (h : WP w0 W B gw gb gt cs v out pend) (hg : (W.drewN n).grownBy W2 (some gb)) : W2.frozen? ⟨gw, 2, none⟩ = false := (wr_blk1 h hg).frozen 2

set_option maxHeartbeats 4000000 in
set_option maxRecDepth 100000 in
theorem prefix32_calls (w0 W : World) (B gw gb gt : Nat) (cs : List Value) (v : Value) (out pend : List Int) (p u : Int) (h : WP w0 W B gw gb gt cs v out pend) (hn : out.length + pend.length ≤ 1099511627776) (hu0 : 0 ≤ u) (hu1 : u ≤ 4294967295) :
    Calls Tryd.prog 17 #[.pointer (some ⟨gw, 0, none⟩), .int .u8 p, .int .u32 u] W (WPost w0 B gw gb gt cs.length (out ++ pend ++ (p :: be u 4))) := by
  have HW := Lib.hid h
  have hle := h.le
  have hlo := h.lo
  have hhi := h.hi
  have hcm : cs.length ≤ maxLen := by simp only [maxLen]; omega
  obtain ⟨q0, q1, q2⟩ := wp_cells h
  clear h
  by_cases hr : (cs.length : Int) - (pend.length : Int) < 5
  · have hd : decide ((cs.length : Int) - (pend.length : Int) < 5) = true := by simp; omega
    go_enter Tryd.func17, Tryd.ntmps17
    go_wp2
    go_quiet (fail)
    go_wp2_with (
      (go_at_call 23)
      go_must (
        (refine (flush_calls w0 (W.drewN nq) B gw gb gt cs v out pend (wp_drewN HW.out nq) hn).mono ?_)
        rintro e W1 ⟨rfl, v1, hwp1⟩
        have HW1 := Lib.hid hwp1
        clear hwp1 q0 q1 q2))
    obtain ⟨q0, q1, q2⟩ := wp_cells HW1.out
    go_region_held3 (fun W' => W'.cell? ⟨gw, 0, none⟩ = some (.iface 46 (.pointer (some ⟨gt, 0, none⟩))) ∧ W'.cell? ⟨gw, 1, none⟩ = some (.slice (some ⟨gb, 0, none⟩) cs.length cs.length) ∧ W'.cell? ⟨gw, 2, none⟩ = some (.int .i64 0)) (first | assumption | go_keep | (dsimp only; refine ⟨?_, ?_, ?_⟩ <;> first | assumption | go_keep))
      (first
        | (go_at_call 26
           refine (prefixu32_calls _ gb 0 _ _ p u cs (HW1.out.buf.drewN 1) (by omega) (by omega) hcm (by omega) (by omega)).mono ?_
           rintro e W2 ⟨rfl, hb2, hg2, hs2⟩
           have hS2 := wr_kept (n := 1) HW1.out hg2
           have HB2 := Lib.hid hb2
           have HG2 := Lib.hid hg2
           clear hb2 hg2 hs2))
    obtain ⟨p0, p1, p2⟩ := hS2
    have fz := wr_frozen (n := 1) HW1.out HG2.out
    clear q0 q1 q2
    go_wp2
    go_ret
    refine ⟨rfl, splice cs 0 (bs (p :: be u 4)), _, (out ++ pend), [] ++ (p :: be u 4), ?_, wp_wrote HW1.out (p :: be u 4) (by simp [be_length]; omega) 1 HB2.out HG2.out _ (by simp [be_length]), by simp⟩
    rw [length_splice _ _ _ (by rw [bs_length]; simp [be_length]; omega)]
  · have hd : decide ((cs.length : Int) - (pend.length : Int) < 5) = false := by simp; omega
    have hr' : pend.length + 5 ≤ cs.length := by omega
    have hcp : ¬ cs.length = pend.length := by omega
    clear hr
    go_enter Tryd.func17, Tryd.ntmps17
    go_wp2
    go_quiet (fail)
    go_wp2
    go_region_held3 (fun W' => W'.cell? ⟨gw, 0, none⟩ = some (.iface 46 (.pointer (some ⟨gt, 0, none⟩))) ∧ W'.cell? ⟨gw, 1, none⟩ = some (.slice (some ⟨gb, 0, none⟩) cs.length cs.length) ∧ W'.cell? ⟨gw, 2, none⟩ = some (.int .i64 pend.length)) (first | assumption | go_keep | (dsimp only; refine ⟨?_, ?_, ?_⟩ <;> first | assumption | go_keep))
      (first
        | (go_at_call 26
           refine (prefixu32_calls _ gb pend.length _ _ p u cs (HW.out.buf.drewN (nq + 1)) (by omega) (by omega) hcm (by omega) (by omega)).mono ?_
           rintro e W2 ⟨rfl, hb2, hg2, hs2⟩
           have hS2 := wr_kept (n := (nq + 1)) HW.out hg2
           have HB2 := Lib.hid hb2
           have HG2 := Lib.hid hg2
           clear hb2 hg2 hs2))
    obtain ⟨p0, p1, p2⟩ := hS2
    have fz := wr_frozen (n := (nq + 1)) HW.out HG2.out
    clear q0 q1 q2
    go_wp2
    go_ret
    refine ⟨rfl, splice cs pend.length (bs (p :: be u 4)), _, out, pend ++ (p :: be u 4), ?_, wp_wrote HW.out (p :: be u 4) (by simp [be_length]; omega) (nq + 1) HB2.out HG2.out _ (by simp [be_length]), by simp⟩
    rw [length_splice _ _ _ (by rw [bs_length]; simp [be_length]; omega)]

set_option maxHeartbeats 4000000 in
set_option maxRecDepth 100000 in
theorem prefix8_calls (w0 W : World) (B gw gb gt : Nat) (cs : List Value) (v : Value) (out pend : List Int) (p u : Int) (h : WP w0 W B gw gb gt cs v out pend) (hn : out.length + pend.length ≤ 1099511627776) (hu0 : 0 ≤ u) (hu1 : u ≤ 255) :
    Calls Tryd.prog 15 #[.pointer (some ⟨gw, 0, none⟩), .int .u8 p, .int .u8 u] W (WPost w0 B gw gb gt cs.length (out ++ pend ++ (p :: be u 1))) := by
  have HW := Lib.hid h
  have hle := h.le
  have hlo := h.lo
  have hhi := h.hi
  have hcm : cs.length ≤ maxLen := by simp only [maxLen]; omega
  obtain ⟨q0, q1, q2⟩ := wp_cells h
  clear h
  by_cases hr : (cs.length : Int) - (pend.length : Int) < 2
  · have hd : decide ((cs.length : Int) - (pend.length : Int) < 2) = true := by simp; omega
    go_enter Tryd.func15, Tryd.ntmps15
    go_wp2
    go_quiet (fail)
    go_wp2_with (
      (go_at_call 23)
      go_must (
        (refine (flush_calls w0 (W.drewN nq) B gw gb gt cs v out pend (wp_drewN HW.out nq) hn).mono ?_)
        rintro e W1 ⟨rfl, v1, hwp1⟩
        have HW1 := Lib.hid hwp1
        clear hwp1 q0 q1 q2))
    obtain ⟨q0, q1, q2⟩ := wp_cells HW1.out
    go_region_held3 (fun W' => W'.cell? ⟨gw, 0, none⟩ = some (.iface 46 (.pointer (some ⟨gt, 0, none⟩))) ∧ W'.cell? ⟨gw, 1, none⟩ = some (.slice (some ⟨gb, 0, none⟩) cs.length cs.length) ∧ W'.cell? ⟨gw, 2, none⟩ = some (.int .i64 0)) (first | assumption | go_keep | (dsimp only; refine ⟨?_, ?_, ?_⟩ <;> first | assumption | go_keep))
      (first
        | (go_at_call 24
           refine (prefixu8_calls _ gb 0 _ _ p u cs (HW1.out.buf.drewN 1) (by omega) (by omega) hcm (by omega) (by omega)).mono ?_
           rintro e W2 ⟨rfl, hb2, hg2, hs2⟩
           have hS2 := wr_kept (n := 1) HW1.out hg2
           have HB2 := Lib.hid hb2
           have HG2 := Lib.hid hg2
           clear hb2 hg2 hs2))
    obtain ⟨p0, p1, p2⟩ := hS2
    have fz := wr_frozen (n := 1) HW1.out HG2.out
    clear q0 q1 q2
    go_wp2
    go_ret
    refine ⟨rfl, splice cs 0 (bs (p :: be u 1)), _, (out ++ pend), [] ++ (p :: be u 1), ?_, wp_wrote HW1.out (p :: be u 1) (by simp [be_length]; omega) 1 HB2.out HG2.out _ (by simp [be_length]), by simp⟩
    rw [length_splice _ _ _ (by rw [bs_length]; simp [be_length]; omega)]
  · have hd : decide ((cs.length : Int) - (pend.length : Int) < 2) = false := by simp; omega
    have hr' : pend.length + 2 ≤ cs.length := by omega
    have hcp : ¬ cs.length = pend.length := by omega
    clear hr
    go_enter Tryd.func15, Tryd.ntmps15
    go_wp2
    go_quiet (fail)
    go_wp2
    go_region_held3 (fun W' => W'.cell? ⟨gw, 0, none⟩ = some (.iface 46 (.pointer (some ⟨gt, 0, none⟩))) ∧ W'.cell? ⟨gw, 1, none⟩ = some (.slice (some ⟨gb, 0, none⟩) cs.length cs.length) ∧ W'.cell? ⟨gw, 2, none⟩ = some (.int .i64 pend.length)) (first | assumption | go_keep | (dsimp only; refine ⟨?_, ?_, ?_⟩ <;> first | assumption | go_keep))
      (first
        | (go_at_call 24
           refine (prefixu8_calls _ gb pend.length _ _ p u cs (HW.out.buf.drewN (nq + 1)) (by omega) (by omega) hcm (by omega) (by omega)).mono ?_
           rintro e W2 ⟨rfl, hb2, hg2, hs2⟩
           have hS2 := wr_kept (n := (nq + 1)) HW.out hg2
           have HB2 := Lib.hid hb2
           have HG2 := Lib.hid hg2
           clear hb2 hg2 hs2))
    obtain ⟨p0, p1, p2⟩ := hS2
    have fz := wr_frozen (n := (nq + 1)) HW.out HG2.out
    clear q0 q1 q2
    go_wp2
    go_ret
    refine ⟨rfl, splice cs pend.length (bs (p :: be u 1)), _, out, pend ++ (p :: be u 1), ?_, wp_wrote HW.out (p :: be u 1) (by simp [be_length]; omega) (nq + 1) HB2.out HG2.out _ (by simp [be_length]), by simp⟩
    rw [length_splice _ _ _ (by rw [bs_length]; simp [be_length]; omega)]

set_option maxHeartbeats 4000000 in
set_option maxRecDepth 100000 in
theorem prefix16_calls (w0 W : World) (B gw gb gt : Nat) (cs : List Value) (v : Value) (out pend : List Int) (p u : Int) (h : WP w0 W B gw gb gt cs v out pend) (hn : out.length + pend.length ≤ 1099511627776) (hu0 : 0 ≤ u) (hu1 : u ≤ 65535) :
    Calls Tryd.prog 16 #[.pointer (some ⟨gw, 0, none⟩), .int .u8 p, .int .u16 u] W (WPost w0 B gw gb gt cs.length (out ++ pend ++ (p :: be u 2))) := by
  have HW := Lib.hid h
  have hle := h.le
  have hlo := h.lo
  have hhi := h.hi
  have hcm : cs.length ≤ maxLen := by simp only [maxLen]; omega
  obtain ⟨q0, q1, q2⟩ := wp_cells h
  clear h
  by_cases hr : (cs.length : Int) - (pend.length : Int) < 3
  · have hd : decide ((cs.length : Int) - (pend.length : Int) < 3) = true := by simp; omega
    go_enter Tryd.func16, Tryd.ntmps16
    go_wp2
    go_quiet (fail)
    go_wp2_with (
      (go_at_call 23)
      go_must (
        (refine (flush_calls w0 (W.drewN nq) B gw gb gt cs v out pend (wp_drewN HW.out nq) hn).mono ?_)
        rintro e W1 ⟨rfl, v1, hwp1⟩
        have HW1 := Lib.hid hwp1
        clear hwp1 q0 q1 q2))
    obtain ⟨q0, q1, q2⟩ := wp_cells HW1.out
    go_region_held3 (fun W' => W'.cell? ⟨gw, 0, none⟩ = some (.iface 46 (.pointer (some ⟨gt, 0, none⟩))) ∧ W'.cell? ⟨gw, 1, none⟩ = some (.slice (some ⟨gb, 0, none⟩) cs.length cs.length) ∧ W'.cell? ⟨gw, 2, none⟩ = some (.int .i64 0)) (first | assumption | go_keep | (dsimp only; refine ⟨?_, ?_, ?_⟩ <;> first | assumption | go_keep))
      (first
        | (go_at_call 25
           refine (prefixu16_calls _ gb 0 _ _ p u cs (HW1.out.buf.drewN 1) (by omega) (by omega) hcm (by omega) (by omega)).mono ?_
           rintro e W2 ⟨rfl, hb2, hg2, hs2⟩
           have hS2 := wr_kept (n := 1) HW1.out hg2
           have HB2 := Lib.hid hb2
           have HG2 := Lib.hid hg2
           clear hb2 hg2 hs2))
    obtain ⟨p0, p1, p2⟩ := hS2
    have fz := wr_frozen (n := 1) HW1.out HG2.out
    clear q0 q1 q2
    go_wp2
    go_ret
    refine ⟨rfl, splice cs 0 (bs (p :: be u 2)), _, (out ++ pend), [] ++ (p :: be u 2), ?_, wp_wrote HW1.out (p :: be u 2) (by simp [be_length]; omega) 1 HB2.out HG2.out _ (by simp [be_length]), by simp⟩
    rw [length_splice _ _ _ (by rw [bs_length]; simp [be_length]; omega)]
  · have hd : decide ((cs.length : Int) - (pend.length : Int) < 3) = false := by simp; omega
    have hr' : pend.length + 3 ≤ cs.length := by omega
    have hcp : ¬ cs.length = pend.length := by omega
    clear hr
    go_enter Tryd.func16, Tryd.ntmps16
    go_wp2
    go_quiet (fail)
    go_wp2
    go_region_held3 (fun W' => W'.cell? ⟨gw, 0, none⟩ = some (.iface 46 (.pointer (some ⟨gt, 0, none⟩))) ∧ W'.cell? ⟨gw, 1, none⟩ = some (.slice (some ⟨gb, 0, none⟩) cs.length cs.length) ∧ W'.cell? ⟨gw, 2, none⟩ = some (.int .i64 pend.length)) (first | assumption | go_keep | (dsimp only; refine ⟨?_, ?_, ?_⟩ <;> first | assumption | go_keep))
      (first
        | (go_at_call 25
           refine (prefixu16_calls _ gb pend.length _ _ p u cs (HW.out.buf.drewN (nq + 1)) (by omega) (by omega) hcm (by omega) (by omega)).mono ?_
           rintro e W2 ⟨rfl, hb2, hg2, hs2⟩
           have hS2 := wr_kept (n := (nq + 1)) HW.out hg2
           have HB2 := Lib.hid hb2
           have HG2 := Lib.hid hg2
           clear hb2 hg2 hs2))
    obtain ⟨p0, p1, p2⟩ := hS2
    have fz := wr_frozen (n := (nq + 1)) HW.out HG2.out
    clear q0 q1 q2
    go_wp2
    go_ret
    refine ⟨rfl, splice cs pend.length (bs (p :: be u 2)), _, out, pend ++ (p :: be u 2), ?_, wp_wrote HW.out (p :: be u 2) (by simp [be_length]; omega) (nq + 1) HB2.out HG2.out _ (by simp [be_length]), by simp⟩
    rw [length_splice _ _ _ (by rw [bs_length]; simp [be_length]; omega)]

end Go.Proofs.YtohainhkplombaaDoor
