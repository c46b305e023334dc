/- FnStreamPutMapHead: the Writer's side. PRINTED by wip/genmap.py. -/
import Derived.Test.YtohainhkplombaaKv
namespace Go.Proofs.Ytohainhkplombaa
open Go.RowKit
set_option linter.unusedVariables false
/-- A head of a map, written. -/
def encM (u : Int) : List Int := if u ≤ 15 then [128 + u] else if u ≤ 65535 then 222 :: be u 2 else 223 :: be u 4
theorem encM_len (u : Int) : (encM u).length ≤ 9 := by
  unfold encM
  repeat' split
  all_goals simp [be_length]
theorem or128' (u : Int) (h0 : 0 ≤ u) (h1 : u ≤ 15) : bits .or .u8 128 u = 128 + u :=
  u8_all (p := fun u => u ≤ 15 → bits .or .u8 128 u = 128 + u) (by decide +kernel) u h0 (by omega) h1
theorem wfixmap_calls (w : World) (u : Int) (h0 : 0 ≤ u) (hu : u ≤ 15) : Calls Try.prog 37 #[.int .u8 u] w fun e w' => e = .returned (.int .u8 (128 + u)) ∧ w = w' := by
  have hb : bits .and .u8 u 15 = u := by rw [and15 u h0 (by omega)]; omega
  have hb2 : bits .or .u8 128 u = 128 + u := or128' u h0 hu
  go_enter Try.func37, Try.ntmps37
  go_wp2
  go_ret
  exact ⟨rfl, rfl⟩

set_option maxHeartbeats 2000000 in
theorem WriteMapHeader_calls (w0 W : World) (B gw gb gt : Nat) (cs : List Value) (v : Value) (out pend : List Int) (u : Int) (h : WP w0 W B gw gb gt cs v out pend) (hn : out.length + pend.length ≤ 1099511627776) (h0 : 0 ≤ u) (hu : u ≤ 4294967295) :
    Calls Try.prog 21 #[.pointer (some ⟨gw, 0, none⟩), .int .u32 u] W (WPost w0 B gw gb gt cs.length (out ++ pend ++ encM u)) := by
  have HW := Lib.hid h
  clear h
  by_cases u0 : u ≤ 15
  · have e : encM u = [128 + u] := by unfold encM; rw [if_pos u0]
    rw [e]
    clear e
    go_enter Try.func21, Try.ntmps21
    go_wp2_with (first
      | (go_at_call 37; refine (wfixmap_calls _ u (by omega) (by omega)).mono ?_; rintro e w' ⟨rfl, rfl⟩)
      | (go_at_call 36
         go_must (
           (refine (push_calls w0 W B gw gb gt cs v out pend (128 + u) HW.out hn).mono ?_)
           rintro e W1 ⟨rfl, hr⟩
           have HR := Lib.hid hr
           clear hr)))
    go_ret
    exact ⟨rfl, HR.out⟩
  by_cases u1 : u ≤ 65535
  · have e : encM u = 222 :: be u 2 := by unfold encM; rw [if_neg u0, if_pos u1]
    rw [e]
    clear e
    go_enter Try.func21, Try.ntmps21
    go_wp2_with (
      (go_at_call 38)
      go_must (
        (refine (prefix16_calls w0 W B gw gb gt cs v out pend 222 (u) HW.out hn (by omega) (by omega)).mono ?_)
        rintro e W1 ⟨rfl, hr⟩
        have HR := Lib.hid hr
        clear hr))
    go_ret
    exact ⟨rfl, HR.out⟩
  have e : encM u = 223 :: be u 4 := by unfold encM; rw [if_neg u0, if_neg u1]
  rw [e]
  clear e
  go_enter Try.func21, Try.ntmps21
  go_wp2_with (
    (go_at_call 31)
    go_must (
      (refine (prefix32_calls w0 W B gw gb gt cs v out pend 223 (u) HW.out hn (by omega) (by omega)).mono ?_)
      rintro e W1 ⟨rfl, hr⟩
      have HR := Lib.hid hr
      clear hr))
  go_ret
  exact ⟨rfl, HR.out⟩

theorem StreamPutMapHead_clo (w0 W : World) (B gw gb gt : Nat) (cs : List Value) (v : Value) (out pend : List Int) (u : Int) (h : WP w0 W B gw gb gt cs v out pend) (hn : out.length + pend.length ≤ 1099511627776) (h0 : 0 ≤ u) (hu : u ≤ 4294967295) :
    Calls Try.prog 20 #[.pointer (some ⟨gw, 0, none⟩), .int .u32 u] W (WPost w0 B gw gb gt cs.length (out ++ pend ++ encM u)) := by
  have HW := Lib.hid h
  clear h
  go_enter Try.func20, Try.ntmps20
  go_wp2_with (
    (go_at_call 21)
    go_must (
      (refine (WriteMapHeader_calls w0 W B gw gb gt cs v out pend u HW.out hn h0 hu).mono ?_)
      rintro e W1 ⟨rfl, hr⟩
      have HR := Lib.hid hr
      clear hr))
  go_ret
  exact ⟨rfl, HR.out⟩

set_option maxHeartbeats 2000000 in
set_option maxRecDepth 100000 in
theorem StreamPutMapHead_written (w : World) (A : Option Addr) (c : Nat) (sz : Int) (l : List Int) (h : Reads w w.heap.size 1 A l.length (l.map (Value.int .u32))) (h18 : 18 ≤ sz) (hsz : sz ≤ 65536) (hl : ∀ x ∈ l, 0 ≤ x ∧ x ≤ 4294967295) (hn : l.length ≤ 100) :
    Calls Try.prog 14 #[.int .i64 sz, .slice A l.length c, .func (.func 20) #[] #[]] w (Wrt w w.heap.size (l.flatMap encM)) := by
  have H := Lib.hid h
  have HL := Lib.hid hl
  clear h hl
  go_enter Try.func14, Try.ntmps14
  go_wp2_with (
    (go_at_call 29)
    go_must (
      (refine (newSize_calls w _ w.heap.size w.heap.size sz (Blk.new w _ [_]) (Nat.le_refl _) ((Below.refl _ w).alloc (Nat.le_refl _) _) (by simp) h18 hsz).mono ?_)
      rintro e W1 ⟨gw, gb, cs, rfl, hcs, hwp⟩
      have HWL : Hid (WL w w.heap.size gw gb w.heap.size sz.toNat [] W1) := ⟨cs, _, [], [], hcs, hwp, rfl⟩
      clear hcs hwp))
  go_loopw [19] (fun i wr => ∃ k : Nat, k ≤ l.length ∧ i = .int .i64 k ∧ Hid (WL w w.heap.size gw gb w.heap.size sz.toNat ((l.take k).flatMap encM) wr)) (fun i _ => l.length - (intOf i).toNat)
  case atStart => exact ⟨0, Nat.zero_le _, rfl, HWL.out⟩
  case round =>
    obtain ⟨k, hk, rfl, hwl⟩ := hrel
    obtain ⟨cs, v, out, pend, hcs, hwp, htot⟩ := hwl.out
    have HWP := Lib.hid hwp
    have HCS := Lib.hid hcs
    have HTOT := Lib.hid htot
    have hlen : out.length + pend.length ≤ 1099511627776 := by
      have h1 := congrArg List.length htot
      rw [List.length_append] at h1
      have h2 := flatMap_le (l.take k) encM 9 (fun x _ => (encM_len x))
      have h3 : (l.take k).length ≤ l.length := by rw [List.length_take]; omega
      omega
    clear hwl hwp hcs htot
    by_cases hlt : k < l.length
    · obtain ⟨ad, hA, hadB, hcell0⟩ := H.out.num hlt
      subst hA
      have hcell : wr.cell? (ad.add k) = some (.int .u32 (l.getD k 0)) := (HWP.out.bel.cell (by rw [block_of_add]; exact hadB)).trans hcell0
      have hu := HL.out (l.getD k 0) (by rw [List.getD_eq_getElem?_getD, List.getElem?_eq_getElem hlt]; exact List.getElem_mem hlt)
      have HSN := Lib.hid (flatMap_take_succ l encM k hlt)
      clear hcell0
      obtain ⟨hu0, hu1⟩ := hu
      generalize l.getD k 0 = u at *
      go_wp2_with (
        (go_at_call 20)
        go_must (
          (refine (StreamPutMapHead_clo w wr w.heap.size gw gb w.heap.size cs v out pend u HWP.out hlen hu0 hu1).mono ?_)
          rintro e W2 ⟨rfl, cs2, v2, out2, pend2, hcs2, hwp2, htot2⟩
          have HWL2 : Hid (WL w w.heap.size gw gb w.heap.size sz.toNat ((l.take (k + 1)).flatMap encM) W2) := ⟨cs2, v2, out2, pend2, hcs2.trans HCS.out, hwp2, by rw [htot2, HTOT.out, HSN.out]⟩
          clear hcs2 hwp2 htot2))
      go_roundw
      case rel => exact ⟨k + 1, by omega, by go_num, HWL2⟩
      case measure => simp [intOf]; omega
    · obtain rfl : k = l.length := by omega
      go_wp2_with (
        (go_at_call 30)
        go_must (
          (refine (Flush_calls w wr w.heap.size gw gb w.heap.size cs v out pend HWP.out hlen).mono ?_)
          rintro e W2 ⟨rfl, v2, hwp2⟩
          obtain ⟨A2, c2, rfl, hc2, hm2⟩ := own_form hwp2.own
          have qt : W2.cell? ⟨w.heap.size, 0, none⟩ = some _ := hwp2.txt.cell 0
          obtain ⟨N2, hN2⟩ : ∃ N2, N2 = (out ++ pend).length := ⟨_, rfl⟩
          rw [← hN2] at qt
          have HN2 := Lib.hid hN2
          have HWP2 := Lib.hid hwp2
          have HC2 := Lib.hid hc2
          clear hwp2 hN2 hc2))
      go_ret2
      have ht : out ++ pend = l.flatMap encM := by rw [HTOT.out, List.take_length]
      refine ⟨A2, c2, ?_, ?_, ?_, hm2, HWP2.out.bel⟩
      · rw [← ht, ← HN2.out]; rfl
      · rw [← ht]; exact Reads.of_own HWP2.out.own
      · rw [← ht]; exact HC2.out

end Go.Proofs.Ytohainhkplombaa
