/- AMQP: errors.New; ParseHeader at fewer than eight bytes; FrameHead; left. (For FnFrameHead.) -/
import Derived.Test.YtpkfmcnbodnpeaaAk
import Derived.Laws.BytesArg
namespace Go.Proofs.Ytpkfmcnbodnpeaa
open Go.RowKit
set_option linter.unusedVariables false

theorem errNew_calls (w : World) (s : ByteArray) :
    Calls Try.prog 13 #[.string s] w fun e w' => e = .returned (.iface 57 (.pointer (some ⟨w.heap.size, 0, none⟩))) ∧ Below w.heap.size w w' := by
  go_enter Try.func13, Try.ntmps13
  go_wp2
  go_ret
  exact ⟨rfl, (Below.refl _ w).alloc (Nat.le_refl _) _⟩

set_option maxHeartbeats 2000000 in
set_option maxRecDepth 100000 in
theorem ParseHeader_no (w : World) (gb g n c : Nat) (hB : Bf w gb (some ⟨g, 0, none⟩) n c 0) (h8 : n < 8) (hc : n ≤ c) (hm : c ≤ maxLen) :
    Calls Try.prog 11 #[.pointer (some ⟨gb, 0, none⟩)] w fun r w' => (∃ a, r = .returned (.tuple #[.agg #[.int .u32 0, .int .u8 0, .int .u8 0, .int .u16 0], .iface 57 (.pointer (some a))])) ∧ Below gb w w' := by
  have hgb := hB.lt
  have HB := Lib.hid hB
  clear hB
  go_enter Try.func11, Try.ntmps11
  go_wp2_with (first
    | (go_at_call 15
       go_must (
         (refine (Next_no _ gb g n c (HB.out.alloc _) h8 hc hm).mono ?_)
         rintro r w1 ⟨⟨v, rfl⟩, m, hw1⟩
         have hb0 : Below gb w w1 := by rw [hw1]; exact (below_drewN ((Below.refl _ w).alloc (Nat.le_of_lt hgb) _) m).setCell (Nat.le_refl _) _
         have hzb : Blk w1 w.heap.size 41 [.int .u32 0, .int .u8 0, .int .u8 0, .int .u16 0] := by rw [hw1]; exact ((Blk.new w _ [_, _, _, _]).drewN m).far (by simp; omega) _
         have HB0 := Lib.hid hb0
         have HZ := Lib.hid hzb
         clear hw1 hb0 hzb))
    | (go_at_call 13
       go_must (
         (refine (errNew_calls _ _).mono ?_)
         rintro r w2 ⟨rfl, hb2⟩
         have hz2 : Blk w2 w.heap.size 41 [.int .u32 0, .int .u8 0, .int .u8 0, .int .u16 0] := HZ.out.below hb2 HZ.out.lt
         obtain ⟨z0, z1, z2, z3⟩ := blk_cells4 hz2
         have z4 := hz2.frozen 0
         have z5 := hz2.frozen 1
         have z6 := hz2.frozen 2
         have z7 := hz2.frozen 3
         have HZ2 := Lib.hid hz2
         have HB2 : Hid (Below gb w w2) := HB0.out.trans (hb2.mono (by have := HB0.out.size; omega))
         clear hz2 hb2)))
  refine bodyPost_ret (results_cell1 rfl _ rfl (blk_set4 HZ2.out _ _ _ _) Try.underlying41 rfl (by kernel_rfl)) rfl ?_
  exact ⟨⟨_, rfl⟩, bel_set4 HB2.out (by omega) _ _ _ _⟩

theorem results_tmp6 {fn : Func} {a b c d e f : Tmp} (h : fn.results = #[.tmp a, .tmp b, .tmp c, .tmp d, .tmp e, .tmp f]) (tmps : Array Value) (P : Program) (w : World) :
    (results fn tmps).run P w = .ok (.tuple #[tmps.getD a undef, tmps.getD b undef, tmps.getD c undef, tmps.getD d undef, tmps.getD e undef, tmps.getD f undef]) w := by
  simp [results, h]

theorem pk_at2 {w : World} {g j : Nat} {t : TypeId} {cs : List Value} {xs : List Int} {x : Int} (h : Blk w g t cs) (ht : cs.take (bs xs).length = bs xs) (hj : xs[j]? = some x) : w.cell? ⟨g, j, none⟩ = some (.int .u8 x) := by
  have hjl : j < xs.length := by
    rcases Nat.lt_or_ge j xs.length with h | h
    · exact h
    · rw [List.getElem?_eq_none h] at hj; cases hj
  have e : (cs.take (bs xs).length)[j]? = some (.int .u8 x) := by
    rw [ht]; simp [bs, hj]
  rw [List.getElem?_take, if_pos (by simpa [bs] using hjl)] at e
  rw [h.cell, e]
theorem pk_one2 (l : List Int) : ∀ v ∈ bs l, v.oneCell' = true := by
  intro v hv; simp only [bs, List.mem_map] at hv; obtain ⟨y, _, rfl⟩ := hv; rfl

set_option maxHeartbeats 2000000 in
set_option maxRecDepth 100000 in
theorem FrameHead_no (w : World) (A : Option Addr) (c n : Nat) (xs : List Int) (hnx : n = xs.length) (h : Reads w w.heap.size 1 A xs.length (bs xs)) (h8 : n < 8) :
    Calls Try.prog 6 #[.slice A n c] w fun e w' => e = .returned (.tuple #[.int .u32 0, .int .u8 0, .int .u8 0, .int .u16 0, .slice none 0 0, .bool false]) ∧ Below w.heap.size w w' := by
  have hl : (bs xs).length = n := by rw [hnx]; simp [bs]
  have hcc := copied_calls w A c (bs xs) (by rw [hl, hnx]; exact h) (pk_one2 xs) (by omega)
  rw [hl] at hcc
  have HC := Lib.hid hcc
  have HL := Lib.hid hl
  clear h hl hnx hcc
  go_enter Try.func6, Try.ntmps6
  go_wp2_with (first
    | (go_at_call 9
       go_must (
         (refine HC.out.mono ?_)
         rintro e w1 ⟨g, cs, rfl, hb1, hcs1, hcm, ht1, hB1, hbel1⟩
         rw [HL.out]
         rw [HL.out] at hcs1
         have HBEL := Lib.hid hbel1
         clear hb1 ht1 hbel1))
    | (go_at_call 10
       go_must (
         (refine (New_calls w1 _ _ _).mono ?_)
         rintro e w2 ⟨rfl, hbf, hbel2⟩
         have HBF := Lib.hid hbf
         have HBEL2 := Lib.hid hbel2
         clear hbf hbel2))
    | (go_at_call 11
       go_must (
         (refine (ParseHeader_no w2 w1.heap.size g n _ HBF.out h8 hcs1 hcm).mono ?_)
         rintro e w3 ⟨⟨a, rfl⟩, hbel3⟩
         have HBEL3 := Lib.hid hbel3
         clear hbel3)))
  refine bodyPost_ret (results_tmp6 rfl _ _ _) rfl ?_
  have hs1 := HBEL.out.size
  have hs2 := HBEL2.out.size
  have hs3 := HBEL3.out.size
  exact ⟨rfl, ((HBEL.out.trans (HBEL2.out.mono hs1)).trans (HBEL3.out.mono hs1)).alloc (by omega) _⟩
end Go.Proofs.Ytpkfmcnbodnpeaa
