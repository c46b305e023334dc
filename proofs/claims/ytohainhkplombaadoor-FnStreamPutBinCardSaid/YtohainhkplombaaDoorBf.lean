/- msgp's Writer: flush and the prefixes, with a frame: what else stands in memory stays. PRINTED by wip/genbf.py. -/
import Derived.Test.YtohainhkplombaaDoorKx
namespace Go.Proofs.YtohainhkplombaaDoor
open Go.RowKit
set_option linter.unusedVariables false

/-- Every block but the Writer's own is as it was. -/
structure Frm (W W' : World) (gw gb gt : Nat) (v v' : Value) : Prop where
  at_ : ∀ k, k < W.heap.size → k ≠ gw → k ≠ gb → k ≠ gt → some k ≠ v.ownBlock → W'.heap[k]? = W.heap[k]?
  own : v'.ownBlock = v.ownBlock ∨ ∃ k, v'.ownBlock = some k ∧ W.heap.size ≤ k
  size : W.heap.size ≤ W'.heap.size
theorem Frm.refl (W : World) (gw gb gt : Nat) (v : Value) : Frm W W gw gb gt v v := ⟨fun _ _ _ _ _ _ => rfl, .inl rfl, Nat.le_refl _⟩
theorem Frm.trans {W W1 W2 : World} {gw gb gt : Nat} {v v1 v2 : Value} (h : Frm W W1 gw gb gt v v1) (h2 : Frm W1 W2 gw gb gt v1 v2) : Frm W W2 gw gb gt v v2 := by
  refine ⟨fun k hk a b c d => (h2.at_ k (Nat.lt_of_lt_of_le hk h.size) a b c ?_).trans (h.at_ k hk a b c d), ?_, Nat.le_trans h.size h2.size⟩
  · rcases h.own with e | ⟨k', e, hk'⟩
    · rw [e]; exact d
    · rw [e]; intro he; injection he with he; omega
  · rcases h2.own with e | ⟨k', e, hk'⟩
    · rw [e]; exact h.own
    · exact .inr ⟨k', e, Nat.le_trans h.size hk'⟩
theorem Frm.drewN {W W' : World} {gw gb gt : Nat} {v v' : Value} {n : Nat} (h : Frm (W.drewN n) W' gw gb gt v v') : Frm W W' gw gb gt v v' := ⟨h.at_, h.own, h.size⟩
/-- Text.Write, then the counter. -/
theorem Frm.text {W W1 : World} {gw gb gt : Nat} {v v' : Value} (u : Value) (hfr : ∀ k, k < W.drew.heap.size → k ≠ gt → some k ≠ v.ownBlock → W1.heap[k]? = W.drew.heap[k]?) (hat : v'.ownBlock = v.ownBlock ∨ v'.ownBlock = some W.drew.heap.size) (hs : W.drew.heap.size ≤ W1.heap.size) :
    Frm W (W1.setCell ⟨gw, 2, none⟩ u) gw gb gt v v' := by
  refine ⟨fun k hk a _ c d => (Below.heap_setCell W1 ⟨gw, 2, none⟩ u k a).trans (hfr k hk c d), ?_, ?_⟩
  · rcases hat with e | e
    · exact .inl e
    · exact .inr ⟨_, e, Nat.le_refl _⟩
  · have h3 : W.drew.heap.size = W.heap.size := rfl
    simp only [World.setCell, Array.size_modify]
    omega
/-- A write into the buffer, then the counter. -/
theorem Frm.buf {W W1 : World} {gw gb gt n : Nat} {v : Value} (u : Value) (hg : (W.drewN n).grownBy W1 (some gb)) : Frm W (W1.setCell ⟨gw, 2, none⟩ u) gw gb gt v v := by
  refine ⟨fun k hk a b _ _ => (Below.heap_setCell W1 ⟨gw, 2, none⟩ u k a).trans (hg.block k hk (fun e => b (by injection e))), .inl rfl, ?_⟩
  have h1 := hg.size
  have h3 : (W.drewN n).heap.size = W.heap.size := rfl
  simp only [World.setCell, Array.size_modify]
  omega
/-- A Writer's call returned no error; so much is written, in all; the rest of the memory stays. -/
def WPostF (w0 W : World) (B gw gb gt N : Nat) (v0 : Value) (tot : List Int) (e : Ending) (W' : World) : Prop :=
  e = .returned .nilIface ∧ ∃ cs v out pend, cs.length = N ∧ WP w0 W' B gw gb gt cs v out pend ∧ out ++ pend = tot ∧ Frm W W' gw gb gt v0 v

set_option maxHeartbeats 2000000 in
set_option maxRecDepth 100000 in
theorem flush_f (w0 W : World) (B gw gb gt : Nat) (cs : List Value) (v : Value) (out pend : List Int) (h : WP w0 W B gw gb gt cs v out pend) (hn : out.length + pend.length ≤ 1099511627776) :
    Calls Tryd.prog 23 #[.pointer (some ⟨gw, 0, none⟩)] W fun e W' => e = .returned .nilIface ∧ ∃ v', WP w0 W' B gw gb gt cs v' (out ++ pend) [] ∧ Frm W W' gw gb gt v v' := by
  have q0 := h.wr.cell 0
  have q1 := h.wr.cell 1
  have q2 := h.wr.cell 2
  simp only [List.getElem?_cons_zero, List.getElem?_cons_succ] at q0 q1 q2
  have HW := Lib.hid h
  have hle := h.le
  have hlo := h.lo
  have hhi := h.hi
  clear h
  by_cases h0 : pend.length = 0
  · have hp : pend = [] := List.eq_nil_of_length_eq_zero h0
    subst hp
    go_enter Tryd.func23, Tryd.ntmps23
    go_wp2
    go_ret
    refine ⟨rfl, v, ?_, Frm.refl _ _ _ _ _⟩
    rw [List.append_nil]
    exact HW.out
  · have hd : ((pend.length : Int) == 0) = false := by rw [beq_eq_false_iff_ne]; omega
    clear h0
    go_enter Tryd.func23, Tryd.ntmps23
    go_wp2
    have hna := fun w fuel => nil_ahead ⟨gt, 0, none⟩ w fuel
    have hmw := fun w fuel => method_write ⟨gt, 0, none⟩ w fuel
    go_region_held3 (fun W' => W'.cell? ⟨gw, 0, none⟩ = some (.iface 46 (.pointer (some ⟨gt, 0, none⟩))) ∧ W'.cell? ⟨gw, 1, none⟩ = some (.slice (some ⟨gb, 0, none⟩) cs.length cs.length) ∧ W'.cell? ⟨gw, 2, none⟩ = some (.int .i64 pend.length)) (first | assumption | go_keep)
      (first
        | (go_at_call 45
           refine (textWrite_calls w0 W.drew B gt W.heap.size cs.length v _ out pend HW.out.txt HW.out.own (flush_reads HW.out) HW.out.bt (below_drewN HW.out.bel 1) HW.out.bsz hn).mono ?_
           rintro e W1 ⟨v', rfl, hb1, ho1, hfr1, hat1, hbel1, hsz1⟩
           have hwp := flush_after HW.out hb1 ho1 hfr1 hat1 hbel1 hsz1
           have hS1 := flush_cells hwp
           have HWP := Lib.hid hwp
           have HFR := Lib.hid (Frm.text (gw := gw) (gb := gb) (.int .i64 0) hfr1 hat1 hsz1)
           clear hb1 ho1 hfr1 hat1 hbel1 hsz1 hwp))
    obtain ⟨p0, p1, p2⟩ := hS1
    have f2 := HWP.out.wr.frozen 2
    clear q0 q1 q2 hna hmw
    go_wp2
    go_ret
    exact ⟨rfl, v', flush_reset HW.out HWP.out, HFR.out⟩
set_option maxHeartbeats 4000000 in
set_option maxRecDepth 100000 in
theorem prefix8_f (w0 W : World) (B gw gb gt : Nat) (cs : List Value) (v : Value) (out pend : List Int) (p u : Int) (h : WP w0 W B gw gb gt cs v out pend) (hn : out.length + pend.length ≤ 1099511627776) (hu0 : 0 ≤ u) (hu1 : u ≤ 255) :
    Calls Tryd.prog 15 #[.pointer (some ⟨gw, 0, none⟩), .int .u8 p, .int .u8 u] W (WPostF w0 W B gw gb gt cs.length v (out ++ pend ++ (p :: be u 1))) := by
  have HW := Lib.hid h
  have hle := h.le
  have hlo := h.lo
  have hhi := h.hi
  have hcm : cs.length ≤ maxLen := by simp only [maxLen]; omega
  obtain ⟨q0, q1, q2⟩ := wp_cells h
  clear h
  by_cases hr : (cs.length : Int) - (pend.length : Int) < 2
  · have hd : decide ((cs.length : Int) - (pend.length : Int) < 2) = true := by simp; omega
    go_enter Tryd.func15, Tryd.ntmps15
    go_wp2
    go_quiet (fail)
    go_wp2_with (
      (go_at_call 23)
      go_must (
        (refine (flush_f w0 (W.drewN nq) B gw gb gt cs v out pend (wp_drewN HW.out nq) hn).mono ?_)
        rintro e W1 ⟨rfl, v1, hwp1, hfr1⟩
        have HW1 := Lib.hid hwp1
        have HF1 := Lib.hid hfr1.drewN
        clear hwp1 hfr1 q0 q1 q2))
    obtain ⟨q0, q1, q2⟩ := wp_cells HW1.out
    go_region_held3 (fun W' => W'.cell? ⟨gw, 0, none⟩ = some (.iface 46 (.pointer (some ⟨gt, 0, none⟩))) ∧ W'.cell? ⟨gw, 1, none⟩ = some (.slice (some ⟨gb, 0, none⟩) cs.length cs.length) ∧ W'.cell? ⟨gw, 2, none⟩ = some (.int .i64 0)) (first | assumption | go_keep | (dsimp only; refine ⟨?_, ?_, ?_⟩ <;> first | assumption | go_keep))
      (first
        | (go_at_call 24
           refine (prefixu8_calls _ gb 0 _ _ p u cs (HW1.out.buf.drewN 1) (by omega) (by omega) hcm (by omega) (by omega)).mono ?_
           rintro e W2 ⟨rfl, hb2, hg2, hs2⟩
           have hS2 := wr_kept (n := 1) HW1.out hg2
           have HB2 := Lib.hid hb2
           have HG2 := Lib.hid hg2
           clear hb2 hg2 hs2))
    obtain ⟨p0, p1, p2⟩ := hS2
    have fz := wr_frozen (n := 1) HW1.out HG2.out
    clear q0 q1 q2
    go_wp2
    go_ret
    refine ⟨rfl, splice cs 0 (bs (p :: be u 1)), _, (out ++ pend), [] ++ (p :: be u 1), ?_, wp_wrote HW1.out (p :: be u 1) (by simp [be_length]; omega) 1 HB2.out HG2.out _ (by simp [be_length]), by simp, HF1.out.trans (Frm.buf (n := 1) _ HG2.out)⟩
    rw [length_splice _ _ _ (by rw [bs_length]; simp [be_length]; omega)]
  · have hd : decide ((cs.length : Int) - (pend.length : Int) < 2) = false := by simp; omega
    have hr' : pend.length + 2 ≤ cs.length := by omega
    have hcp : ¬ cs.length = pend.length := by omega
    clear hr
    go_enter Tryd.func15, Tryd.ntmps15
    go_wp2
    go_quiet (fail)
    go_wp2
    go_region_held3 (fun W' => W'.cell? ⟨gw, 0, none⟩ = some (.iface 46 (.pointer (some ⟨gt, 0, none⟩))) ∧ W'.cell? ⟨gw, 1, none⟩ = some (.slice (some ⟨gb, 0, none⟩) cs.length cs.length) ∧ W'.cell? ⟨gw, 2, none⟩ = some (.int .i64 pend.length)) (first | assumption | go_keep | (dsimp only; refine ⟨?_, ?_, ?_⟩ <;> first | assumption | go_keep))
      (first
        | (go_at_call 24
           refine (prefixu8_calls _ gb pend.length _ _ p u cs (HW.out.buf.drewN (nq + 1)) (by omega) (by omega) hcm (by omega) (by omega)).mono ?_
           rintro e W2 ⟨rfl, hb2, hg2, hs2⟩
           have hS2 := wr_kept (n := (nq + 1)) HW.out hg2
           have HB2 := Lib.hid hb2
           have HG2 := Lib.hid hg2
           clear hb2 hg2 hs2))
    obtain ⟨p0, p1, p2⟩ := hS2
    have fz := wr_frozen (n := (nq + 1)) HW.out HG2.out
    clear q0 q1 q2
    go_wp2
    go_ret
    refine ⟨rfl, splice cs pend.length (bs (p :: be u 1)), _, out, pend ++ (p :: be u 1), ?_, wp_wrote HW.out (p :: be u 1) (by simp [be_length]; omega) (nq + 1) HB2.out HG2.out _ (by simp [be_length]), by simp, Frm.buf (n := nq + 1) _ HG2.out⟩
    rw [length_splice _ _ _ (by rw [bs_length]; simp [be_length]; omega)]


set_option maxHeartbeats 4000000 in
set_option maxRecDepth 100000 in
theorem prefix16_f (w0 W : World) (B gw gb gt : Nat) (cs : List Value) (v : Value) (out pend : List Int) (p u : Int) (h : WP w0 W B gw gb gt cs v out pend) (hn : out.length + pend.length ≤ 1099511627776) (hu0 : 0 ≤ u) (hu1 : u ≤ 65535) :
    Calls Tryd.prog 16 #[.pointer (some ⟨gw, 0, none⟩), .int .u8 p, .int .u16 u] W (WPostF w0 W B gw gb gt cs.length v (out ++ pend ++ (p :: be u 2))) := by
  have HW := Lib.hid h
  have hle := h.le
  have hlo := h.lo
  have hhi := h.hi
  have hcm : cs.length ≤ maxLen := by simp only [maxLen]; omega
  obtain ⟨q0, q1, q2⟩ := wp_cells h
  clear h
  by_cases hr : (cs.length : Int) - (pend.length : Int) < 3
  · have hd : decide ((cs.length : Int) - (pend.length : Int) < 3) = true := by simp; omega
    go_enter Tryd.func16, Tryd.ntmps16
    go_wp2
    go_quiet (fail)
    go_wp2_with (
      (go_at_call 23)
      go_must (
        (refine (flush_f w0 (W.drewN nq) B gw gb gt cs v out pend (wp_drewN HW.out nq) hn).mono ?_)
        rintro e W1 ⟨rfl, v1, hwp1, hfr1⟩
        have HW1 := Lib.hid hwp1
        have HF1 := Lib.hid hfr1.drewN
        clear hwp1 hfr1 q0 q1 q2))
    obtain ⟨q0, q1, q2⟩ := wp_cells HW1.out
    go_region_held3 (fun W' => W'.cell? ⟨gw, 0, none⟩ = some (.iface 46 (.pointer (some ⟨gt, 0, none⟩))) ∧ W'.cell? ⟨gw, 1, none⟩ = some (.slice (some ⟨gb, 0, none⟩) cs.length cs.length) ∧ W'.cell? ⟨gw, 2, none⟩ = some (.int .i64 0)) (first | assumption | go_keep | (dsimp only; refine ⟨?_, ?_, ?_⟩ <;> first | assumption | go_keep))
      (first
        | (go_at_call 25
           refine (prefixu16_calls _ gb 0 _ _ p u cs (HW1.out.buf.drewN 1) (by omega) (by omega) hcm (by omega) (by omega)).mono ?_
           rintro e W2 ⟨rfl, hb2, hg2, hs2⟩
           have hS2 := wr_kept (n := 1) HW1.out hg2
           have HB2 := Lib.hid hb2
           have HG2 := Lib.hid hg2
           clear hb2 hg2 hs2))
    obtain ⟨p0, p1, p2⟩ := hS2
    have fz := wr_frozen (n := 1) HW1.out HG2.out
    clear q0 q1 q2
    go_wp2
    go_ret
    refine ⟨rfl, splice cs 0 (bs (p :: be u 2)), _, (out ++ pend), [] ++ (p :: be u 2), ?_, wp_wrote HW1.out (p :: be u 2) (by simp [be_length]; omega) 1 HB2.out HG2.out _ (by simp [be_length]), by simp, HF1.out.trans (Frm.buf (n := 1) _ HG2.out)⟩
    rw [length_splice _ _ _ (by rw [bs_length]; simp [be_length]; omega)]
  · have hd : decide ((cs.length : Int) - (pend.length : Int) < 3) = false := by simp; omega
    have hr' : pend.length + 3 ≤ cs.length := by omega
    have hcp : ¬ cs.length = pend.length := by omega
    clear hr
    go_enter Tryd.func16, Tryd.ntmps16
    go_wp2
    go_quiet (fail)
    go_wp2
    go_region_held3 (fun W' => W'.cell? ⟨gw, 0, none⟩ = some (.iface 46 (.pointer (some ⟨gt, 0, none⟩))) ∧ W'.cell? ⟨gw, 1, none⟩ = some (.slice (some ⟨gb, 0, none⟩) cs.length cs.length) ∧ W'.cell? ⟨gw, 2, none⟩ = some (.int .i64 pend.length)) (first | assumption | go_keep | (dsimp only; refine ⟨?_, ?_, ?_⟩ <;> first | assumption | go_keep))
      (first
        | (go_at_call 25
           refine (prefixu16_calls _ gb pend.length _ _ p u cs (HW.out.buf.drewN (nq + 1)) (by omega) (by omega) hcm (by omega) (by omega)).mono ?_
           rintro e W2 ⟨rfl, hb2, hg2, hs2⟩
           have hS2 := wr_kept (n := (nq + 1)) HW.out hg2
           have HB2 := Lib.hid hb2
           have HG2 := Lib.hid hg2
           clear hb2 hg2 hs2))
    obtain ⟨p0, p1, p2⟩ := hS2
    have fz := wr_frozen (n := (nq + 1)) HW.out HG2.out
    clear q0 q1 q2
    go_wp2
    go_ret
    refine ⟨rfl, splice cs pend.length (bs (p :: be u 2)), _, out, pend ++ (p :: be u 2), ?_, wp_wrote HW.out (p :: be u 2) (by simp [be_length]; omega) (nq + 1) HB2.out HG2.out _ (by simp [be_length]), by simp, Frm.buf (n := nq + 1) _ HG2.out⟩
    rw [length_splice _ _ _ (by rw [bs_length]; simp [be_length]; omega)]


set_option maxHeartbeats 4000000 in
set_option maxRecDepth 100000 in
theorem prefix32_f (w0 W : World) (B gw gb gt : Nat) (cs : List Value) (v : Value) (out pend : List Int) (p u : Int) (h : WP w0 W B gw gb gt cs v out pend) (hn : out.length + pend.length ≤ 1099511627776) (hu0 : 0 ≤ u) (hu1 : u ≤ 4294967295) :
    Calls Tryd.prog 17 #[.pointer (some ⟨gw, 0, none⟩), .int .u8 p, .int .u32 u] W (WPostF w0 W B gw gb gt cs.length v (out ++ pend ++ (p :: be u 4))) := by
  have HW := Lib.hid h
  have hle := h.le
  have hlo := h.lo
  have hhi := h.hi
  have hcm : cs.length ≤ maxLen := by simp only [maxLen]; omega
  obtain ⟨q0, q1, q2⟩ := wp_cells h
  clear h
  by_cases hr : (cs.length : Int) - (pend.length : Int) < 5
  · have hd : decide ((cs.length : Int) - (pend.length : Int) < 5) = true := by simp; omega
    go_enter Tryd.func17, Tryd.ntmps17
    go_wp2
    go_quiet (fail)
    go_wp2_with (
      (go_at_call 23)
      go_must (
        (refine (flush_f w0 (W.drewN nq) B gw gb gt cs v out pend (wp_drewN HW.out nq) hn).mono ?_)
        rintro e W1 ⟨rfl, v1, hwp1, hfr1⟩
        have HW1 := Lib.hid hwp1
        have HF1 := Lib.hid hfr1.drewN
        clear hwp1 hfr1 q0 q1 q2))
    obtain ⟨q0, q1, q2⟩ := wp_cells HW1.out
    go_region_held3 (fun W' => W'.cell? ⟨gw, 0, none⟩ = some (.iface 46 (.pointer (some ⟨gt, 0, none⟩))) ∧ W'.cell? ⟨gw, 1, none⟩ = some (.slice (some ⟨gb, 0, none⟩) cs.length cs.length) ∧ W'.cell? ⟨gw, 2, none⟩ = some (.int .i64 0)) (first | assumption | go_keep | (dsimp only; refine ⟨?_, ?_, ?_⟩ <;> first | assumption | go_keep))
      (first
        | (go_at_call 26
           refine (prefixu32_calls _ gb 0 _ _ p u cs (HW1.out.buf.drewN 1) (by omega) (by omega) hcm (by omega) (by omega)).mono ?_
           rintro e W2 ⟨rfl, hb2, hg2, hs2⟩
           have hS2 := wr_kept (n := 1) HW1.out hg2
           have HB2 := Lib.hid hb2
           have HG2 := Lib.hid hg2
           clear hb2 hg2 hs2))
    obtain ⟨p0, p1, p2⟩ := hS2
    have fz := wr_frozen (n := 1) HW1.out HG2.out
    clear q0 q1 q2
    go_wp2
    go_ret
    refine ⟨rfl, splice cs 0 (bs (p :: be u 4)), _, (out ++ pend), [] ++ (p :: be u 4), ?_, wp_wrote HW1.out (p :: be u 4) (by simp [be_length]; omega) 1 HB2.out HG2.out _ (by simp [be_length]), by simp, HF1.out.trans (Frm.buf (n := 1) _ HG2.out)⟩
    rw [length_splice _ _ _ (by rw [bs_length]; simp [be_length]; omega)]
  · have hd : decide ((cs.length : Int) - (pend.length : Int) < 5) = false := by simp; omega
    have hr' : pend.length + 5 ≤ cs.length := by omega
    have hcp : ¬ cs.length = pend.length := by omega
    clear hr
    go_enter Tryd.func17, Tryd.ntmps17
    go_wp2
    go_quiet (fail)
    go_wp2
    go_region_held3 (fun W' => W'.cell? ⟨gw, 0, none⟩ = some (.iface 46 (.pointer (some ⟨gt, 0, none⟩))) ∧ W'.cell? ⟨gw, 1, none⟩ = some (.slice (some ⟨gb, 0, none⟩) cs.length cs.length) ∧ W'.cell? ⟨gw, 2, none⟩ = some (.int .i64 pend.length)) (first | assumption | go_keep | (dsimp only; refine ⟨?_, ?_, ?_⟩ <;> first | assumption | go_keep))
      (first
        | (go_at_call 26
           refine (prefixu32_calls _ gb pend.length _ _ p u cs (HW.out.buf.drewN (nq + 1)) (by omega) (by omega) hcm (by omega) (by omega)).mono ?_
           rintro e W2 ⟨rfl, hb2, hg2, hs2⟩
           have hS2 := wr_kept (n := (nq + 1)) HW.out hg2
           have HB2 := Lib.hid hb2
           have HG2 := Lib.hid hg2
           clear hb2 hg2 hs2))
    obtain ⟨p0, p1, p2⟩ := hS2
    have fz := wr_frozen (n := (nq + 1)) HW.out HG2.out
    clear q0 q1 q2
    go_wp2
    go_ret
    refine ⟨rfl, splice cs pend.length (bs (p :: be u 4)), _, out, pend ++ (p :: be u 4), ?_, wp_wrote HW.out (p :: be u 4) (by simp [be_length]; omega) (nq + 1) HB2.out HG2.out _ (by simp [be_length]), by simp, Frm.buf (n := nq + 1) _ HG2.out⟩
    rw [length_splice _ _ _ (by rw [bs_length]; simp [be_length]; omega)]


end Go.Proofs.YtohainhkplombaaDoor
