/- The reference's reader of JSON: blank, eat, word at texts of lists of numbers. -/
import Derived.Test.YtikpmeedjdddoaaDoorJb
import Derived.Deep.QuietTactic
import Derived.BigQuiet
namespace Go.Proofs.YtikpmeedjdddoaaDoor
open Go.RowKit
set_option linter.unusedVariables false

theorem grownJ_refl (w : World) (row : Option Nat) : w.grownBy w row := ⟨rfl, rfl, rfl, Nat.le_refl _, fun _ _ _ => rfl⟩
theorem grownJ_trans {a b c : World} {row : Option Nat} (h : a.grownBy b row) (h2 : b.grownBy c row) : a.grownBy c row :=
  ⟨h2.os.trans h.os, h2.tape.trans h.tape, h2.output.trans h.output, Nat.le_trans h.size h2.size, fun j hj hr => (h2.block j (Nat.lt_of_lt_of_le hj h.size) hr).trans (h.block j hj hr)⟩
theorem grownJ_set (W : World) (g i : Nat) (v : Value) : W.grownBy (W.setCell ⟨g, i, none⟩ v) (some g) :=
  ⟨rfl, rfl, rfl, by simp, fun k _ hk => heap_setCell_other W ⟨g, i, none⟩ k v (fun e => hk (by rw [e]))⟩
theorem grownJ_drewN {a b : World} {row : Option Nat} (h : a.grownBy b row) (n : Nat) : a.grownBy (b.drewN n) row := ⟨h.os, h.tape, h.output, h.size, h.block⟩
/-- A string whose bytes are the numbers of a list. -/
def StrJ (s : ByteArray) (T : List Int) : Prop := s.size = T.length ∧ T.length ≤ 100000 ∧ ∀ i, i < T.length → 0 ≤ T.getD i 0 ∧ T.getD i 0 ≤ 255 ∧ ((s.data.toList.getD i 0).toNat : Int) = T.getD i 0
theorem StrJ.of_nums (T : List Int) (h : ∀ b ∈ T, 0 ≤ b ∧ b ≤ 255) (hl : T.length ≤ 100000) : StrJ (strOfNums T) T := by
  refine ⟨by simp [strOfNums, ByteArray.size], hl, fun i hi => ?_⟩
  have hm := h (T.getD i 0) (by simp [List.getD, hi])
  refine ⟨hm.1, hm.2, ?_⟩
  have e : (strOfNums T).data.toList.getD i 0 = UInt8.ofNat (T.getD i 0).toNat := by
    simp [strOfNums, List.getD, hi]
  rw [e]
  generalize T.getD i 0 = z at hm ⊢
  have : (UInt8.ofNat z.toNat).toNat = z.toNat := by simp [UInt8.toNat_ofNat']; omega
  omega
/-- A byte of it. -/
theorem StrJ.index {s : ByteArray} {T : List Int} (h : StrJ s T) {i : Nat} (hi : i < T.length) {b : Int} (hb : T.getD i 0 = b) (W : World) :
    (Instr.index 9 (.string s) (.int .i64 (i : Int))).run Tryd.prog W = .ok (.int .u8 b) W := by
  rw [run_index_string W _ s .i64 i Tryd.underlying9, dif_pos ⟨by omega, by have := h.1; omega⟩]
  have := (h.2.2 i hi).2.2
  rw [← hb, ← this]
  have hd : i < s.data.size := by have := h.1; have e : s.size = s.data.size := rfl; omega
  have e2 : s.data.toList.getD i 0 = s.data[i] := by
    simp only [List.getD, Array.getElem?_toList]
    rw [Array.getElem?_eq_getElem hd]; rfl
  rw [e2]
  rfl
/-- The reader at a place of its text. -/
def JB (W : World) (g : Nat) (s : ByteArray) (at_ : Int) : Prop := Blk W g 61 [.string s, .int .i64 at_, .bool false]
def NoBlank (b : Int) : Prop := b ≠ 32 ∧ b ≠ 10 ∧ b ≠ 13 ∧ b ≠ 9

set_option maxHeartbeats 2000000 in
set_option maxRecDepth 100000 in
theorem blank_calls (w : World) (g k : Nat) (s : ByteArray) (T : List Int) (hs : StrJ s T) (h : JB w g s k) (hk : k ≤ T.length) (hb : k < T.length → NoBlank (T.getD k 0)) :
    Calls Tryd.prog 22 #[.pointer (some ⟨g, 0, none⟩)] w fun e w' => e = .returned (.tuple #[]) ∧ ∃ n, w' = w.drewN n := by
  have hs1 := hs.1
  have hs2 := hs.2.1
  have HS := Lib.hid hs
  have H := Lib.hid h
  clear hs h
  go_enter Tryd.func22, Tryd.ntmps22
  go_wp2
  go_loopw [] (fun wr => wr = w) (fun _ => 0)
  case atStart => rfl
  case round =>
    have e1 : wr = w := hrel
    subst e1
    have r0 := H.out.cell 0
    have r1 := H.out.cell 1
    simp only [List.getElem?_cons_zero, List.getElem?_cons_succ] at r0 r1
    by_cases hlt : k < T.length
    · have d0 : decide ((k : Int) < (s.size : Int)) = true := decide_eq_true (by omega)
      obtain ⟨b, hbb⟩ : ∃ b, T.getD k 0 = b := ⟨_, rfl⟩
      have hix := HS.out.index hlt hbb
      have hnb := hb hlt
      rw [hbb] at hnb
      obtain ⟨n1, n2, n3, n4⟩ := hnb
      have b1 : (b == 32) = false := by simpa using n1
      have b2 : (b == 10) = false := by simpa using n2
      have b3 : (b == 13) = false := by simpa using n3
      have b4 : (b == 9) = false := by simpa using n4
      clear n1 n2 n3 n4 hbb hb
      go_wp2
      go_quiet (fail)
      go_wp2
      go_end0
      exact ⟨rfl, _, rfl⟩
    · have d0 : decide ((k : Int) < (s.size : Int)) = false := decide_eq_false (by omega)
      clear hb
      go_wp2
      go_quiet (fail)
      go_wp2
      go_end0
      exact ⟨rfl, _, rfl⟩

set_option maxHeartbeats 2000000 in
set_option maxRecDepth 100000 in
theorem eat_yes (w : World) (g k : Nat) (s : ByteArray) (T : List Int) (hs : StrJ s T) (h : JB w g s k) (hk : k < T.length) (c : Int) (hc : T.getD k 0 = c) (hb : NoBlank c) :
    Calls Tryd.prog 48 #[.pointer (some ⟨g, 0, none⟩), .int .u8 c] w fun e w' => e = .returned (.bool true) ∧ JB w' g s ((k + 1 : Nat) : Int) ∧ w.grownBy w' (some g) := by
  have hs1 := hs.1
  have hs2 := hs.2.1
  have hix := hs.index hk hc
  have hbl := blank_calls w g k s T hs h (by omega) (fun _ => by rw [hc]; exact hb)
  have r0 := h.cell 0
  have r1 := h.cell 1
  have f1 := h.frozen 1
  simp only [List.getElem?_cons_zero, List.getElem?_cons_succ] at r0 r1
  have HBL := Lib.hid hbl
  have H := Lib.hid h
  have d0 : decide ((k : Int) < (s.size : Int)) = true := decide_eq_true (by omega)
  have hw1 : IntKind.i64.wrap ((k : Int) + 1) = (k : Int) + 1 := by rw [IntKind.wrap_i64]; omega
  have b1 : (c == c) = true := by simp
  clear hs h hbl hc hb
  go_enter Tryd.func48, Tryd.ntmps48
  go_wp2_with (
    (go_at_call 22)
    go_must (
      (refine HBL.out.mono ?_)
      rintro e w1 ⟨rfl, n1, rfl⟩))
  go_quiet (fail)
  go_wp2
  go_ret
  exact ⟨rfl, ((H.out.drewN _).set_ 1 _), grownJ_trans (grownJ_drewN (grownJ_refl _ _) _) (grownJ_set _ _ _ _)⟩

set_option maxHeartbeats 2000000 in
set_option maxRecDepth 100000 in
theorem eat_no (w : World) (g k : Nat) (s : ByteArray) (T : List Int) (hs : StrJ s T) (h : JB w g s k) (hk : k < T.length) (b c : Int) (hc : T.getD k 0 = b) (hbc : b ≠ c) (hb : NoBlank b) :
    Calls Tryd.prog 48 #[.pointer (some ⟨g, 0, none⟩), .int .u8 c] w fun e w' => e = .returned (.bool false) ∧ ∃ n, w' = w.drewN n := by
  have hs1 := hs.1
  have hs2 := hs.2.1
  have hix := hs.index hk hc
  have hbl := blank_calls w g k s T hs h (by omega) (fun _ => by rw [hc]; exact hb)
  have r0 := h.cell 0
  have r1 := h.cell 1
  simp only [List.getElem?_cons_zero, List.getElem?_cons_succ] at r0 r1
  have HBL := Lib.hid hbl
  have H := Lib.hid h
  have d0 : decide ((k : Int) < (s.size : Int)) = true := decide_eq_true (by omega)
  have b1 : (b == c) = false := by simpa using hbc
  clear hs h hbl hc hb hbc
  go_enter Tryd.func48, Tryd.ntmps48
  go_wp2_with (
    (go_at_call 22)
    go_must (
      (refine HBL.out.mono ?_)
      rintro e w1 ⟨rfl, n1, rfl⟩))
  go_quiet (fail)
  go_wp2
  go_ret
  exact ⟨rfl, n1 + nq, by simp⟩

set_option maxHeartbeats 2000000 in
set_option maxRecDepth 100000 in
/-- A word that does not stand there: its first byte is another. -/
theorem word_no (w : World) (g k : Nat) (s s0 : ByteArray) (T : List Int) (hs : StrJ s T) (h : JB w g s k) (hk : k < T.length) (b c : Int) (hc : T.getD k 0 = b) (hbc : b ≠ c) (hn1 : 1 ≤ s0.size) (hn2 : s0.size ≤ 10) (h0 : ((s0.data.toList.getD 0 0).toNat : Int) = c) :
    Calls Tryd.prog 30 #[.pointer (some ⟨g, 0, none⟩), .string s0] w fun e w' => e = .returned (.bool false) ∧ ∃ n, w' = w.drewN n := by
  have hs1 := hs.1
  have hs2 := hs.2.1
  have hbyte := (hs.2.2 k hk).2.2
  have r0 := h.cell 0
  have r1 := h.cell 1
  simp only [List.getElem?_cons_zero, List.getElem?_cons_succ] at r0 r1
  have H := Lib.hid h
  have hw1 : IntKind.i64.wrap ((s.size : Int) - (k : Int)) = (s.size : Int) - (k : Int) := by rw [IntKind.wrap_i64]; omega
  have hw2 : IntKind.i64.wrap ((k : Int) + (s0.size : Int)) = (k : Int) + (s0.size : Int) := by rw [IntKind.wrap_i64]; omega
  by_cases hle : s0.size ≤ s.size - k
  · have d0 : decide ((s0.size : Int) ≤ (s.size : Int) - (k : Int)) = true := decide_eq_true (by omega)
    obtain ⟨s1, hs1e⟩ : ∃ s1, s1 = s.extract k (k + s0.size) := ⟨_, rfl⟩
    have hsl : ∀ W : World, (Instr.slice 9 (.string s) (some (.int .i64 (k : Int))) (some (.int .i64 ((k : Int) + (s0.size : Int)))) none).run Tryd.prog W = .ok (.string s1) W := fun W => by
      rw [run_slice_string W _ s .i64 .i64 k ((k : Int) + (s0.size : Int)) Tryd.underlying9 (by omega) (by omega) (by omega), hs1e]
      congr 3
      all_goals omega
    have hne : (s1.toList == s0.toList) = false := by
      rw [beq_eq_false_iff_ne]
      intro e
      apply hbc
      rw [← hc, ← hbyte, ← h0]
      have e0 : s1.data.toList.getD 0 0 = s0.data.toList.getD 0 0 := by
        rw [ByteArray.toList_eq, ByteArray.toList_eq] at e
        rw [e]
      rw [← e0, hs1e]
      congr 1
      have hd : k < s.data.size := by have e : s.size = s.data.size := rfl; omega
      rw [show (s.extract k (k + s0.size)).data.toList = (s.data.toList.drop k).take (k + s0.size - k) by simp [ByteArray.data_extract]]
      simp only [List.getD]
      rw [List.getElem?_take, if_pos (by omega), List.getElem?_drop, Nat.add_zero]
    clear hs h hc hbc h0 hbyte hs1e hs1 hs2 hle hk hn1 hn2
    go_enter Tryd.func30, Tryd.ntmps30
    go_wp2
    go_quiet (fail)
    go_wp2
    go_ret
    exact ⟨rfl, _, rfl⟩
  · have d0 : decide ((s0.size : Int) ≤ (s.size : Int) - (k : Int)) = false := decide_eq_false (by omega)
    clear hs h hc hbc h0 hbyte hs1 hs2 hle hk hn1 hn2
    go_enter Tryd.func30, Tryd.ntmps30
    go_wp2
    go_quiet (fail)
    go_wp2
    go_ret
    exact ⟨rfl, _, rfl⟩
end Go.Proofs.YtikpmeedjdddoaaDoor
