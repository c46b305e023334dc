/- impl.written over a list of strings, and impl.StreamPutBin. PRINTED by wip/genbz.py. -/
import Derived.Test.YtohainhkplombaaDoorBy
import Derived.Test.YtohainhkplombaaDoorKv
namespace Go.Proofs.YtohainhkplombaaDoor
open Go.RowKit
set_option linter.unusedVariables false

/-- Strings, as their bytes tell them. -/
def strs (l : List (List Int)) : List Value := l.map fun r => Value.string (strOfNums r)
theorem getDT_mem {l : List (List Int)} {k : Nat} (h : k < l.length) : l.getD k [] ∈ l := by
  rw [List.getD_eq_getElem?_getD, List.getElem?_eq_getElem h]; exact List.getElem_mem h
theorem Reads.str {w : World} {B n : Nat} {A : Option Addr} {l : List (List Int)} (h : Reads w B 1 A n (strs l)) {j : Nat} (hj : j < n) : ∃ ad, A = some ad ∧ ad.block < B ∧ w.cell? (ad.add j) = some (.string (strOfNums (l.getD j []))) := by
  obtain ⟨ad, v, hA, hb, hv, hc⟩ := h.at_ hj
  have hl : l.length = n := by have := h.1; simp [strs] at this; omega
  refine ⟨ad, hA, hb, hc.trans ?_⟩
  rw [← hv]
  simp [strs, List.getElem?_eq_getElem (show j < l.length by omega), List.getD_eq_getElem?_getD]
theorem flatT_take_succ (l : List (List Int)) (enc : List Int → List Int) (k : Nat) (h : k < l.length) : (l.take (k + 1)).flatMap enc = (l.take k).flatMap enc ++ enc (l.getD k []) := by
  rw [List.take_succ_eq_append_getElem h, List.flatMap_append, List.getD_eq_getElem?_getD, List.getElem?_eq_getElem h]
  simp
theorem flatT_le (l : List (List Int)) (enc : List Int → List Int) (m : Nat) (h : ∀ x ∈ l, (enc x).length ≤ m) : (l.flatMap enc).length ≤ m * l.length := by
  induction l with
  | nil => simp
  | cons x xs ih =>
    have h1 := h x (by simp)
    have h2 := ih (fun y hy => h y (by simp [hy]))
    simp only [List.flatMap_cons, List.length_append, List.length_cons, Nat.mul_succ]
    omega
theorem encT_len (r : List Int) : (encT r).length ≤ r.length + 5 := by
  unfold encT
  have := binHead_len r.length
  rw [List.length_append]
  omega

set_option maxHeartbeats 2000000 in
set_option maxRecDepth 100000 in
theorem StreamPutBin_written (w : World) (A : Option Addr) (c : Nat) (sz : Int) (l : List (List Int)) (h : Reads w w.heap.size 1 A l.length (strs l)) (h18 : 18 ≤ sz) (hsz : sz ≤ 65536) (hl : ∀ x ∈ l, IsB x ∧ x.length ≤ 65536) (hn : l.length ≤ 100) :
    Calls Tryd.prog 8 #[.int .i64 sz, .slice A l.length c, .func (.func 9) #[] #[]] w (Wrt w w.heap.size (l.flatMap encT)) := by
  have H := Lib.hid h
  have HL := Lib.hid hl
  clear h hl
  go_enter Tryd.func8, Tryd.ntmps8
  go_wp2_with (
    (go_at_call 13)
    go_must (
      (refine (newSize_calls w _ w.heap.size w.heap.size sz (Blk.new w _ [_]) (Nat.le_refl _) ((Below.refl _ w).alloc (Nat.le_refl _) _) (by simp) h18 hsz).mono ?_)
      rintro e W1 ⟨gw, gb, cs, rfl, hcs, hwp⟩
      have HWL : Hid (WL w w.heap.size gw gb w.heap.size sz.toNat [] W1) := ⟨cs, _, [], [], hcs, hwp, rfl⟩
      clear hcs hwp))
  go_loopw [19] (fun i wr => ∃ k : Nat, k ≤ l.length ∧ i = .int .i64 k ∧ Hid (WL w w.heap.size gw gb w.heap.size sz.toNat ((l.take k).flatMap encT) wr)) (fun i _ => l.length - (intOf i).toNat)
  case atStart => exact ⟨0, Nat.zero_le _, rfl, HWL.out⟩
  case round =>
    obtain ⟨k, hk, rfl, hwl⟩ := hrel
    obtain ⟨cs, v, out, pend, hcs, hwp, htot⟩ := hwl.out
    have HWP := Lib.hid hwp
    have HCS := Lib.hid hcs
    have HTOT := Lib.hid htot
    have hlen : out.length + pend.length ≤ 6554100 := by
      have h1 := congrArg List.length htot
      rw [List.length_append] at h1
      have h2 := flatT_le (l.take k) encT 65541 (fun x hx => by have := (HL.out x (List.mem_of_mem_take hx)).2; have := encT_len x; omega)
      have h3 : (l.take k).length ≤ l.length := by rw [List.length_take]; omega
      omega
    clear hwl hwp hcs htot
    by_cases hlt : k < l.length
    · obtain ⟨ad, hA, hadB, hcell0⟩ := H.out.str hlt
      subst hA
      have hcell : wr.cell? (ad.add k) = some (.string (strOfNums (l.getD k []))) := (HWP.out.bel.cell (by rw [block_of_add]; exact hadB)).trans hcell0
      have hu := HL.out (l.getD k []) (getDT_mem hlt)
      have HSN := Lib.hid (flatT_take_succ l encT k hlt)
      clear hcell0
      obtain ⟨hu0, hu1⟩ := hu
      have HU0 := Lib.hid hu0
      clear hu0
      generalize l.getD k [] = r at *
      obtain ⟨S, hS⟩ : ∃ S, S = strOfNums r := ⟨_, rfl⟩
      rw [← hS] at hcell
      have HS := Lib.hid hS
      clear hS
      go_wp2_with (
        (go_at_call 9)
        go_must (
          (rw [HS.out])
          refine (StreamPutBin_clo w wr w.heap.size gw gb w.heap.size cs v out pend r HWP.out HU0.out (by omega) (by omega)).mono ?_
          rintro e W2 ⟨rfl, cs2, v2, out2, pend2, hcs2, hwp2, htot2⟩
          have HWL2 : Hid (WL w w.heap.size gw gb w.heap.size sz.toNat ((l.take (k + 1)).flatMap encT) W2) := ⟨cs2, v2, out2, pend2, hcs2.trans HCS.out, hwp2, by rw [htot2, HTOT.out, HSN.out]⟩
          clear hcs2 hwp2 htot2))
      go_roundw
      case rel => exact ⟨k + 1, by omega, by go_num, HWL2⟩
      case measure => simp [intOf]; omega
    · obtain rfl : k = l.length := by omega
      go_wp2_with (
        (go_at_call 14)
        go_must (
          (refine (Flush_calls w wr w.heap.size gw gb w.heap.size cs v out pend HWP.out (by omega)).mono ?_)
          rintro e W2 ⟨rfl, v2, hwp2⟩
          obtain ⟨A2, c2, rfl, hc2, hm2⟩ := own_form hwp2.own
          have qt : W2.cell? ⟨w.heap.size, 0, none⟩ = some _ := hwp2.txt.cell 0
          obtain ⟨N2, hN2⟩ : ∃ N2, N2 = (out ++ pend).length := ⟨_, rfl⟩
          rw [← hN2] at qt
          have HN2 := Lib.hid hN2
          have HWP2 := Lib.hid hwp2
          have HC2 := Lib.hid hc2
          clear hwp2 hN2 hc2))
      go_ret2
      have ht : out ++ pend = l.flatMap encT := by rw [HTOT.out, List.take_length]
      refine ⟨A2, c2, ?_, ?_, ?_, hm2, HWP2.out.bel⟩
      · rw [← ht, ← HN2.out]; rfl
      · rw [← ht]; exact Reads.of_own HWP2.out.own
      · rw [← ht]; exact HC2.out

theorem StreamPutBin_calls (w : World) (A : Option Addr) (c : Nat) (sz : Int) (l : List (List Int)) (h : Reads w w.heap.size 1 A l.length (strs l)) (h18 : 18 ≤ sz) (hsz : sz ≤ 65536) (hl : ∀ x ∈ l, IsB x ∧ x.length ≤ 65536) (hn : l.length ≤ 100) :
    Calls Tryd.prog 5 #[.int .i64 sz, .slice A l.length c] w (Wrt w w.heap.size (l.flatMap encT)) := by
  have H := Lib.hid h
  have HL := Lib.hid hl
  clear h hl
  go_enter Tryd.func5, Tryd.ntmps5
  go_wp2_with (
    (go_at_call 8)
    go_must (
      (refine (StreamPutBin_written w A c sz l H.out h18 hsz HL.out hn).mono ?_)
      rintro e W1 ⟨A2, c2, rfl, hr, hc2, hm2, hbel⟩
      obtain ⟨N2, hN2⟩ : ∃ N2, N2 = (l.flatMap encT).length := ⟨_, rfl⟩
      rw [← hN2]
      have HN2 := Lib.hid hN2
      have HR := Lib.hid hr
      have HC := Lib.hid hc2
      have HBEL := Lib.hid hbel
      clear hr hc2 hbel hN2))
  go_ret2
  exact ⟨A2, c2, by rw [← HN2.out]; rfl, HR.out, HC.out, hm2, HBEL.out⟩
theorem s97 : strOfNums [97] = ⟨#[97]⟩ := rfl
theorem StreamPutBin_awake (w : World) (A : Option Addr) (h : Reads w w.heap.size 1 A 1 [.string ⟨#[97]⟩]) : Calls Tryd.prog 5 #[.int .i64 100, .slice A 1 1] w (Wrt w w.heap.size [196, 1, 97]) := by
  rw [← s97] at h
  have e := StreamPutBin_calls w A 1 100 [[97]] h (by omega) (by omega) (fun x hx => by
    obtain rfl : x = [97] := by simpa using hx
    exact ⟨fun y hy => by obtain rfl : y = 97 := by simpa using hy
                          omega, by simp⟩) (by simp)
  exact e
end Go.Proofs.YtohainhkplombaaDoor
