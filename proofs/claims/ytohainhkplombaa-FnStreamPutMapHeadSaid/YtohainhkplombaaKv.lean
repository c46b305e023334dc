/- impl.written: a Writer over a Text, a value behind the other, Flush: what the Text holds. PRINTED by wip/genz.py. -/
import Derived.Test.YtohainhkplombaaKy
import Derived.Test.YtohainhkplombaaKz
namespace Go.Proofs.Ytohainhkplombaa
open Go.RowKit
set_option linter.unusedVariables false

theorem Flush_calls (w0 W : World) (B gw gb gt : Nat) (cs : List Value) (v : Value) (out pend : List Int) (h : WP w0 W B gw gb gt cs v out pend) (hn : out.length + pend.length ≤ 1099511627776) :
    Calls Try.prog 30 #[.pointer (some ⟨gw, 0, none⟩)] W fun e W' => e = .returned .nilIface ∧ ∃ v', WP w0 W' B gw gb gt cs v' (out ++ pend) [] := by
  have HW := Lib.hid h
  clear h
  go_enter Try.func30, Try.ntmps30
  go_wp2_with (
    (go_at_call 43)
    go_must (
      (refine (flush_calls w0 W B gw gb gt cs v out pend HW.out hn).mono ?_)
      rintro e W1 ⟨rfl, hr⟩
      have HR := Lib.hid hr
      clear hr))
  go_ret
  exact ⟨rfl, HR.out⟩

/-- Where a loop over the values stands. -/
def WL (w0 : World) (B gw gb gt N : Nat) (tot : List Int) (W : World) : Prop := ∃ cs v out pend, cs.length = N ∧ WP w0 W B gw gb gt cs v out pend ∧ out ++ pend = tot
/-- So many bytes were written, in all: they lie in a row of their own. -/
def Wrt (w0 : World) (B : Nat) (tot : List Int) (e : Ending) (W' : World) : Prop :=
  ∃ A c, e = .returned (.tuple #[.slice A tot.length c, .bool true]) ∧ Reads W' W'.heap.size 1 A tot.length (bs tot) ∧ tot.length ≤ c ∧ c ≤ maxLen ∧ Below B w0 W'
theorem flatMap_take_succ (l : List Int) (enc : Int → List Int) (k : Nat) (h : k < l.length) : (l.take (k + 1)).flatMap enc = (l.take k).flatMap enc ++ enc (l.getD k 0) := by
  rw [List.take_succ_eq_append_getElem h, List.flatMap_append, List.getD_eq_getElem?_getD, List.getElem?_eq_getElem h]
  simp
theorem flatMap_le (l : List Int) (enc : Int → List Int) (m : Nat) (h : ∀ x ∈ l, (enc x).length ≤ m) : (l.flatMap enc).length ≤ m * l.length := by
  induction l with
  | nil => simp
  | cons x xs ih =>
    have h1 := h x (by simp)
    have h2 := ih (fun y hy => h y (by simp [hy]))
    simp only [List.flatMap_cons, List.length_append, List.length_cons, Nat.mul_succ]
    omega
theorem encU_len (u : Int) : (encU u).length ≤ 9 := by
  unfold encU
  repeat' split
  all_goals simp [be_length]
theorem encI_len (u : Int) : (encI u).length ≤ 9 := by
  unfold encI
  repeat' split
  all_goals simp [be_length]
theorem Reads.num {w : World} {B n : Nat} {A : Option Addr} {k : IntKind} {l : List Int} (h : Reads w B 1 A n (l.map (Value.int k))) {j : Nat} (hj : j < n) : ∃ ad, A = some ad ∧ ad.block < B ∧ w.cell? (ad.add j) = some (.int k (l.getD j 0)) := by
  obtain ⟨ad, v, hA, hb, hv, hc⟩ := h.at_ hj
  have hl : l.length = n := by have := h.1; simp at this; omega
  refine ⟨ad, hA, hb, hc.trans ?_⟩
  rw [← hv]
  simp [List.getElem?_eq_getElem (show j < l.length by omega), List.getD_eq_getElem?_getD]

theorem StreamPutUint_clo (w0 W : World) (B gw gb gt : Nat) (cs : List Value) (v : Value) (out pend : List Int) (u : Int) (h : WP w0 W B gw gb gt cs v out pend) (hn : out.length + pend.length ≤ 1099511627776) (h0 : 0 ≤ u) (hu : u ≤ 18446744073709551615) :
    Calls Try.prog 24 #[.pointer (some ⟨gw, 0, none⟩), .int .u64 u] W (WPost w0 B gw gb gt cs.length (out ++ pend ++ encU u)) := by
  have HW := Lib.hid h
  clear h
  go_enter Try.func24, Try.ntmps24
  go_wp2_with (
    (go_at_call 25)
    go_must (
      (refine (WriteUint_calls w0 W B gw gb gt cs v out pend u HW.out hn h0 hu).mono ?_)
      rintro e W1 ⟨rfl, hr⟩
      have HR := Lib.hid hr
      clear hr))
  go_ret
  exact ⟨rfl, HR.out⟩

set_option maxHeartbeats 2000000 in
set_option maxRecDepth 100000 in
theorem StreamPutUint_written (w : World) (A : Option Addr) (c : Nat) (sz : Int) (l : List Int) (h : Reads w w.heap.size 1 A l.length (l.map (Value.int .u64))) (h18 : 18 ≤ sz) (hsz : sz ≤ 65536) (hl : ∀ x ∈ l, 0 ≤ x ∧ x ≤ 18446744073709551615) (hn : l.length ≤ 100) :
    Calls Try.prog 23 #[.int .i64 sz, .slice A l.length c, .func (.func 24) #[] #[]] w (Wrt w w.heap.size (l.flatMap encU)) := by
  have H := Lib.hid h
  have HL := Lib.hid hl
  clear h hl
  go_enter Try.func23, Try.ntmps23
  go_wp2_with (
    (go_at_call 29)
    go_must (
      (refine (newSize_calls w _ w.heap.size w.heap.size sz (Blk.new w _ [_]) (Nat.le_refl _) ((Below.refl _ w).alloc (Nat.le_refl _) _) (by simp) h18 hsz).mono ?_)
      rintro e W1 ⟨gw, gb, cs, rfl, hcs, hwp⟩
      have HWL : Hid (WL w w.heap.size gw gb w.heap.size sz.toNat [] W1) := ⟨cs, _, [], [], hcs, hwp, rfl⟩
      clear hcs hwp))
  go_loopw [19] (fun i wr => ∃ k : Nat, k ≤ l.length ∧ i = .int .i64 k ∧ Hid (WL w w.heap.size gw gb w.heap.size sz.toNat ((l.take k).flatMap encU) wr)) (fun i _ => l.length - (intOf i).toNat)
  case atStart => exact ⟨0, Nat.zero_le _, rfl, HWL.out⟩
  case round =>
    obtain ⟨k, hk, rfl, hwl⟩ := hrel
    obtain ⟨cs, v, out, pend, hcs, hwp, htot⟩ := hwl.out
    have HWP := Lib.hid hwp
    have HCS := Lib.hid hcs
    have HTOT := Lib.hid htot
    have hlen : out.length + pend.length ≤ 1099511627776 := by
      have h1 := congrArg List.length htot
      rw [List.length_append] at h1
      have h2 := flatMap_le (l.take k) encU 9 (fun x _ => (encU_len x))
      have h3 : (l.take k).length ≤ l.length := by rw [List.length_take]; omega
      omega
    clear hwl hwp hcs htot
    by_cases hlt : k < l.length
    · obtain ⟨ad, hA, hadB, hcell0⟩ := H.out.num hlt
      subst hA
      have hcell : wr.cell? (ad.add k) = some (.int .u64 (l.getD k 0)) := (HWP.out.bel.cell (by rw [block_of_add]; exact hadB)).trans hcell0
      have hu := HL.out (l.getD k 0) (by rw [List.getD_eq_getElem?_getD, List.getElem?_eq_getElem hlt]; exact List.getElem_mem hlt)
      have HSN := Lib.hid (flatMap_take_succ l encU k hlt)
      clear hcell0
      obtain ⟨hu0, hu1⟩ := hu
      generalize l.getD k 0 = u at *
      go_wp2_with (
        (go_at_call 24)
        go_must (
          (refine (StreamPutUint_clo w wr w.heap.size gw gb w.heap.size cs v out pend u HWP.out hlen hu0 hu1).mono ?_)
          rintro e W2 ⟨rfl, cs2, v2, out2, pend2, hcs2, hwp2, htot2⟩
          have HWL2 : Hid (WL w w.heap.size gw gb w.heap.size sz.toNat ((l.take (k + 1)).flatMap encU) W2) := ⟨cs2, v2, out2, pend2, hcs2.trans HCS.out, hwp2, by rw [htot2, HTOT.out, HSN.out]⟩
          clear hcs2 hwp2 htot2))
      go_roundw
      case rel => exact ⟨k + 1, by omega, by go_num, HWL2⟩
      case measure => simp [intOf]; omega
    · obtain rfl : k = l.length := by omega
      go_wp2_with (
        (go_at_call 30)
        go_must (
          (refine (Flush_calls w wr w.heap.size gw gb w.heap.size cs v out pend HWP.out hlen).mono ?_)
          rintro e W2 ⟨rfl, v2, hwp2⟩
          obtain ⟨A2, c2, rfl, hc2, hm2⟩ := own_form hwp2.own
          have qt : W2.cell? ⟨w.heap.size, 0, none⟩ = some _ := hwp2.txt.cell 0
          obtain ⟨N2, hN2⟩ : ∃ N2, N2 = (out ++ pend).length := ⟨_, rfl⟩
          rw [← hN2] at qt
          have HN2 := Lib.hid hN2
          have HWP2 := Lib.hid hwp2
          have HC2 := Lib.hid hc2
          clear hwp2 hN2 hc2))
      go_ret2
      have ht : out ++ pend = l.flatMap encU := by rw [HTOT.out, List.take_length]
      refine ⟨A2, c2, ?_, ?_, ?_, hm2, HWP2.out.bel⟩
      · rw [← ht, ← HN2.out]; rfl
      · rw [← ht]; exact Reads.of_own HWP2.out.own
      · rw [← ht]; exact HC2.out

theorem StreamPutInt_clo (w0 W : World) (B gw gb gt : Nat) (cs : List Value) (v : Value) (out pend : List Int) (u : Int) (h : WP w0 W B gw gb gt cs v out pend) (hn : out.length + pend.length ≤ 1099511627776) (h0 : -9223372036854775808 ≤ u) (hu : u ≤ 9223372036854775807) :
    Calls Try.prog 27 #[.pointer (some ⟨gw, 0, none⟩), .int .i64 u] W (WPost w0 B gw gb gt cs.length (out ++ pend ++ encI u)) := by
  have HW := Lib.hid h
  clear h
  go_enter Try.func27, Try.ntmps27
  go_wp2_with (
    (go_at_call 28)
    go_must (
      (refine (WriteInt_calls w0 W B gw gb gt cs v out pend u HW.out hn h0 hu).mono ?_)
      rintro e W1 ⟨rfl, hr⟩
      have HR := Lib.hid hr
      clear hr))
  go_ret
  exact ⟨rfl, HR.out⟩

set_option maxHeartbeats 2000000 in
set_option maxRecDepth 100000 in
theorem StreamPutInt_written (w : World) (A : Option Addr) (c : Nat) (sz : Int) (l : List Int) (h : Reads w w.heap.size 1 A l.length (l.map (Value.int .i64))) (h18 : 18 ≤ sz) (hsz : sz ≤ 65536) (hl : ∀ x ∈ l, -9223372036854775808 ≤ x ∧ x ≤ 9223372036854775807) (hn : l.length ≤ 100) :
    Calls Try.prog 26 #[.int .i64 sz, .slice A l.length c, .func (.func 27) #[] #[]] w (Wrt w w.heap.size (l.flatMap encI)) := by
  have H := Lib.hid h
  have HL := Lib.hid hl
  clear h hl
  go_enter Try.func26, Try.ntmps26
  go_wp2_with (
    (go_at_call 29)
    go_must (
      (refine (newSize_calls w _ w.heap.size w.heap.size sz (Blk.new w _ [_]) (Nat.le_refl _) ((Below.refl _ w).alloc (Nat.le_refl _) _) (by simp) h18 hsz).mono ?_)
      rintro e W1 ⟨gw, gb, cs, rfl, hcs, hwp⟩
      have HWL : Hid (WL w w.heap.size gw gb w.heap.size sz.toNat [] W1) := ⟨cs, _, [], [], hcs, hwp, rfl⟩
      clear hcs hwp))
  go_loopw [19] (fun i wr => ∃ k : Nat, k ≤ l.length ∧ i = .int .i64 k ∧ Hid (WL w w.heap.size gw gb w.heap.size sz.toNat ((l.take k).flatMap encI) wr)) (fun i _ => l.length - (intOf i).toNat)
  case atStart => exact ⟨0, Nat.zero_le _, rfl, HWL.out⟩
  case round =>
    obtain ⟨k, hk, rfl, hwl⟩ := hrel
    obtain ⟨cs, v, out, pend, hcs, hwp, htot⟩ := hwl.out
    have HWP := Lib.hid hwp
    have HCS := Lib.hid hcs
    have HTOT := Lib.hid htot
    have hlen : out.length + pend.length ≤ 1099511627776 := by
      have h1 := congrArg List.length htot
      rw [List.length_append] at h1
      have h2 := flatMap_le (l.take k) encI 9 (fun x _ => (encI_len x))
      have h3 : (l.take k).length ≤ l.length := by rw [List.length_take]; omega
      omega
    clear hwl hwp hcs htot
    by_cases hlt : k < l.length
    · obtain ⟨ad, hA, hadB, hcell0⟩ := H.out.num hlt
      subst hA
      have hcell : wr.cell? (ad.add k) = some (.int .i64 (l.getD k 0)) := (HWP.out.bel.cell (by rw [block_of_add]; exact hadB)).trans hcell0
      have hu := HL.out (l.getD k 0) (by rw [List.getD_eq_getElem?_getD, List.getElem?_eq_getElem hlt]; exact List.getElem_mem hlt)
      have HSN := Lib.hid (flatMap_take_succ l encI k hlt)
      clear hcell0
      obtain ⟨hu0, hu1⟩ := hu
      generalize l.getD k 0 = u at *
      go_wp2_with (
        (go_at_call 27)
        go_must (
          (refine (StreamPutInt_clo w wr w.heap.size gw gb w.heap.size cs v out pend u HWP.out hlen hu0 hu1).mono ?_)
          rintro e W2 ⟨rfl, cs2, v2, out2, pend2, hcs2, hwp2, htot2⟩
          have HWL2 : Hid (WL w w.heap.size gw gb w.heap.size sz.toNat ((l.take (k + 1)).flatMap encI) W2) := ⟨cs2, v2, out2, pend2, hcs2.trans HCS.out, hwp2, by rw [htot2, HTOT.out, HSN.out]⟩
          clear hcs2 hwp2 htot2))
      go_roundw
      case rel => exact ⟨k + 1, by omega, by go_num, HWL2⟩
      case measure => simp [intOf]; omega
    · obtain rfl : k = l.length := by omega
      go_wp2_with (
        (go_at_call 30)
        go_must (
          (refine (Flush_calls w wr w.heap.size gw gb w.heap.size cs v out pend HWP.out hlen).mono ?_)
          rintro e W2 ⟨rfl, v2, hwp2⟩
          obtain ⟨A2, c2, rfl, hc2, hm2⟩ := own_form hwp2.own
          have qt : W2.cell? ⟨w.heap.size, 0, none⟩ = some _ := hwp2.txt.cell 0
          obtain ⟨N2, hN2⟩ : ∃ N2, N2 = (out ++ pend).length := ⟨_, rfl⟩
          rw [← hN2] at qt
          have HN2 := Lib.hid hN2
          have HWP2 := Lib.hid hwp2
          have HC2 := Lib.hid hc2
          clear hwp2 hN2 hc2))
      go_ret2
      have ht : out ++ pend = l.flatMap encI := by rw [HTOT.out, List.take_length]
      refine ⟨A2, c2, ?_, ?_, ?_, hm2, HWP2.out.bel⟩
      · rw [← ht, ← HN2.out]; rfl
      · rw [← ht]; exact Reads.of_own HWP2.out.own
      · rw [← ht]; exact HC2.out

end Go.Proofs.Ytohainhkplombaa
