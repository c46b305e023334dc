/- AMQP: PeekSection; the walk of FnPeekSection. PRINTED by wip/genpeek.py. -/
import Derived.Test.YtpkfmcnbodnpeaaAp
namespace Go.Proofs.Ytpkfmcnbodnpeaa
open Go.RowKit
set_option linter.unusedVariables false
theorem pk_at {w : World} {g j : Nat} {t : TypeId} {cs : List Value} {xs : List Int} {x : Int} (h : Blk w g t cs) (ht : cs.take (bs xs).length = bs xs) (hj : xs[j]? = some x) : w.cell? ⟨g, j, none⟩ = some (.int .u8 x) := by
  have hjl : j < xs.length := by
    rcases Nat.lt_or_ge j xs.length with h | h
    · exact h
    · rw [List.getElem?_eq_none h] at hj; cases hj
  have e : (cs.take (bs xs).length)[j]? = some (.int .u8 x) := by
    rw [ht]; simp [bs, hj]
  rw [List.getElem?_take, if_pos (by simpa [bs] using hjl)] at e
  rw [h.cell, e]

set_option maxHeartbeats 1000000 in
set_option maxRecDepth 100000 in
theorem PeekSection_short (w : World) (A : Option Addr) (c : Nat) (xs : List Int) (code : Int) (h : Reads w w.heap.size 1 A xs.length (bs xs)) (h0 : 0 ≤ code) (h1 : code ≤ 255) (hn : 3 ≤ xs.length) (hm : xs.length ≤ 1000000) (hx0 : xs[0]? = some 0) (hx1 : xs[1]? = some 83) (hx2 : xs[2]? = some code) :
    Calls Try.prog 5 #[.slice A xs.length c] w fun e w' => e = .returned (.tuple #[.int .u8 code, .int .u8 3, .bool true]) ∧ Below w.heap.size w w' := by
  have hl : (bs xs).length = xs.length := by simp [bs]
  have HC := Lib.hid (copied_calls w A c (bs xs) (by rw [hl]; exact h) (by intro v hv; simp only [bs, List.mem_map] at hv; obtain ⟨y, _, rfl⟩ := hv; rfl) (by omega))
  clear h
  have HL := Lib.hid hl
  rw [← hl] at hn ⊢
  obtain ⟨XS, hXS⟩ : ∃ XS, XS = (bs xs).length := ⟨_, rfl⟩
  rw [← hXS] at hn ⊢
  have HXS := Lib.hid hXS
  clear hl hXS
  go_enter Try.func5, Try.ntmps5
  go_wp2_with (first
    | (go_at_call 9
       go_must (
         (have hcc := HC.out)
         rw [← HXS.out] at hcc
         refine hcc.mono ?_
         rintro e w1 ⟨g, cs, rfl, hb1, hcs1, hcm, ht1, hB1, hbel1⟩
         rw [← HXS.out]
         have hcs : XS ≤ cs.length := by rw [HXS.out]; exact hcs1
         have HB := Lib.hid hb1
         have HT := Lib.hid ht1
         have HBEL := Lib.hid hbel1
         clear hb1 ht1 hbel1 hcs1 hcc))
    | (go_at_call 8
       go_must (
         (refine (peek_short w1 g _ _ code h0 h1 hn hcs hcm (pk_at HB.out HT.out hx0) (pk_at HB.out HT.out hx1) (pk_at HB.out HT.out hx2)).mono ?_)
         rintro e w2 ⟨rfl, rfl⟩
         have HB2 : Hid (Below w1.heap.size w1 w1) := Below.refl _ _)))
  go_ret3
  exact ⟨rfl, HBEL.out.trans (HB2.out.mono HBEL.out.size)⟩

set_option maxHeartbeats 1000000 in
set_option maxRecDepth 100000 in
theorem PeekSection_long (w : World) (A : Option Addr) (c : Nat) (xs : List Int) (code : Int) (h : Reads w w.heap.size 1 A xs.length (bs xs)) (h0 : 0 ≤ code) (h1 : code ≤ 255) (hn : 10 ≤ xs.length) (hm : xs.length ≤ 1000000) (hx0 : xs[0]? = some 0) (hx1 : xs[1]? = some 128) (hx2 : xs[2]? = some 0) (hx3 : xs[3]? = some 0) (hx4 : xs[4]? = some 0) (hx5 : xs[5]? = some 0) (hx6 : xs[6]? = some 0) (hx7 : xs[7]? = some 0) (hx8 : xs[8]? = some 0) (hx9 : xs[9]? = some code) :
    Calls Try.prog 5 #[.slice A xs.length c] w fun e w' => e = .returned (.tuple #[.int .u8 code, .int .u8 10, .bool true]) ∧ Below w.heap.size w w' := by
  have hl : (bs xs).length = xs.length := by simp [bs]
  have HC := Lib.hid (copied_calls w A c (bs xs) (by rw [hl]; exact h) (by intro v hv; simp only [bs, List.mem_map] at hv; obtain ⟨y, _, rfl⟩ := hv; rfl) (by omega))
  clear h
  have HL := Lib.hid hl
  rw [← hl] at hn ⊢
  obtain ⟨XS, hXS⟩ : ∃ XS, XS = (bs xs).length := ⟨_, rfl⟩
  rw [← hXS] at hn ⊢
  have HXS := Lib.hid hXS
  clear hl hXS
  go_enter Try.func5, Try.ntmps5
  go_wp2_with (first
    | (go_at_call 9
       go_must (
         (have hcc := HC.out)
         rw [← HXS.out] at hcc
         refine hcc.mono ?_
         rintro e w1 ⟨g, cs, rfl, hb1, hcs1, hcm, ht1, hB1, hbel1⟩
         rw [← HXS.out]
         have hcs : XS ≤ cs.length := by rw [HXS.out]; exact hcs1
         have HB := Lib.hid hb1
         have HT := Lib.hid ht1
         have HBEL := Lib.hid hbel1
         clear hb1 ht1 hbel1 hcs1 hcc))
    | (go_at_call 8
       go_must (
         (refine (peek_long w1 g _ _ code h0 h1 HB.out.lt hn hcs hcm (pk_at HB.out HT.out hx0) (pk_at HB.out HT.out hx1) (pk_at HB.out HT.out hx2) (pk_at HB.out HT.out hx3) (pk_at HB.out HT.out hx4) (pk_at HB.out HT.out hx5) (pk_at HB.out HT.out hx6) (pk_at HB.out HT.out hx7) (pk_at HB.out HT.out hx8) (pk_at HB.out HT.out hx9)).mono ?_)
         rintro e w2 ⟨rfl, hbel2⟩
         have HB2 := Lib.hid hbel2
         clear hbel2)))
  go_ret3
  exact ⟨rfl, HBEL.out.trans (HB2.out.mono HBEL.out.size)⟩

end Go.Proofs.Ytpkfmcnbodnpeaa
