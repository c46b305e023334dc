/- Contracts of the reference's TakePack, at values that hold no others. PRINTED by wip/gentp.py. -/
import Derived.Test.YtfhaddnacdjpoaaKf
namespace Go.Proofs.Ytfhaddnacdjpoaa
open Go.RowKit
set_option linter.unusedVariables false


set_option maxHeartbeats 1000000 in
set_option maxRecDepth 100000 in
theorem TakePack_fix (w : World) (B c : Nat) (A : Option Addr) (b : Int) (r : List Int) (h : Reads w B 1 A (b :: r).length (bs (b :: r))) (hB : B ≤ w.heap.size) (hl : IsB (b :: r)) (hc : (b :: r).length ≤ c) (hm : c ≤ maxLen) (hb2 : b < 128) :
    Calls Try.prog 13 #[.slice A (b :: r).length c, .int .i64 2] w (Coded w B (pk 3 b ⟨#[]⟩ 0) r) := by
  have H := Lib.hid h
  have hb := hl b (by simp)
  obtain ⟨hb0, hb1⟩ := hb
  have HL : Hid (IsB r) := fun x hx => hl x (by simp [hx])
  have hm' : c ≤ 9223372036854775807 := by unfold maxLen at hm; omega
  have hc' : r.length + 1 ≤ c := by simpa using hc
  obtain ⟨ad, rfl, hadB, hcell⟩ := h.byte (k := 0) (by simp)
  have hcell0 : w.cell? ad = some (.int .u8 b) := by
    rw [Addr.add_zero'] at hcell; simpa using hcell
  have hadb : ad.block < w.heap.size := by omega
  have hR : ∀ A', (A' = if c = 1 then some ad else (some ad).map (·.add 1)) → Reads w B 1 A' r.length (bs r) := fun A' hA' => by
    have := reads_cut (k := 1) h (by simp) hc hA'
    simpa using this
  have HR := Lib.hid hR
  clear h hl hcell hR hc
  have hlen : ((r.length + 1 : Nat) : Int) = (r.length : Int) + 1 := by omega
  clear hlen
  by_cases hc1 : c = 1
  all_goals
    go_enter Try.func13, Try.ntmps13
    go_wp2
    go_quiet (fail)
    go_wp2
    refine bodyPost_ret (results_cell2 rfl _ rfl (blk_set5 (((Blk.new w _ [_, _, _, _, _]).alloc _).drewN nq) _ _ _ _ _) Try.underlying29 rfl (by kernel_rfl)) rfl ?_
    exact ⟨_, _, rfl, by omega, by omega, reads_set5 ((((HR.out _ (by first | rw [if_pos hc1] | (rw [if_neg hc1]; rfl))).alloc hB _).alloc (by simp; omega) _).drewN nq) _ hB _ _ _ _ _, below_set5 (below_drewN (((Below.refl _ w).alloc (Nat.le_refl _) _).alloc (by simp) _) nq) _ (Nat.le_refl _) _ _ _ _ _⟩

set_option maxHeartbeats 1000000 in
set_option maxRecDepth 100000 in
theorem TakePack_neg (w : World) (B c : Nat) (A : Option Addr) (b : Int) (r : List Int) (h : Reads w B 1 A (b :: r).length (bs (b :: r))) (hB : B ≤ w.heap.size) (hl : IsB (b :: r)) (hc : (b :: r).length ≤ c) (hm : c ≤ maxLen) (hb2 : 224 ≤ b) :
    Calls Try.prog 13 #[.slice A (b :: r).length c, .int .i64 2] w (Coded w B (pk 2 (sx b 256) ⟨#[]⟩ 0) r) := by
  have H := Lib.hid h
  have hb := hl b (by simp)
  obtain ⟨hb0, hb1⟩ := hb
  have HL : Hid (IsB r) := fun x hx => hl x (by simp [hx])
  have hm' : c ≤ 9223372036854775807 := by unfold maxLen at hm; omega
  have hc' : r.length + 1 ≤ c := by simpa using hc
  obtain ⟨ad, rfl, hadB, hcell⟩ := h.byte (k := 0) (by simp)
  have hcell0 : w.cell? ad = some (.int .u8 b) := by
    rw [Addr.add_zero'] at hcell; simpa using hcell
  have hadb : ad.block < w.heap.size := by omega
  have hR : ∀ A', (A' = if c = 1 then some ad else (some ad).map (·.add 1)) → Reads w B 1 A' r.length (bs r) := fun A' hA' => by
    have := reads_cut (k := 1) h (by simp) hc hA'
    simpa using this
  have HR := Lib.hid hR
  clear h hl hcell hR hc
  have hlen : ((r.length + 1 : Nat) : Int) = (r.length : Int) + 1 := by omega
  clear hlen
  have hw1 : IntKind.i8.wrap b = b - 256 := by simp [IntKind.wrap, IntKind.bits, IntKind.signed]; omega
  have hw2 : IntKind.u64.wrap (b - 256) = sx b 256 := sx_wrap b 256 hb0 (by omega) (by omega)
  by_cases hc1 : c = 1
  all_goals
    go_enter Try.func13, Try.ntmps13
    go_wp2
    go_quiet (fail)
    go_wp2
    refine bodyPost_ret (results_cell2 rfl _ rfl (blk_set5 (((Blk.new w _ [_, _, _, _, _]).alloc _).drewN nq) _ _ _ _ _) Try.underlying29 rfl (by kernel_rfl)) rfl ?_
    exact ⟨_, _, rfl, by omega, by omega, reads_set5 ((((HR.out _ (by first | rw [if_pos hc1] | (rw [if_neg hc1]; rfl))).alloc hB _).alloc (by simp; omega) _).drewN nq) _ hB _ _ _ _ _, below_set5 (below_drewN (((Below.refl _ w).alloc (Nat.le_refl _) _).alloc (by simp) _) nq) _ (Nat.le_refl _) _ _ _ _ _⟩

set_option maxHeartbeats 1000000 in
set_option maxRecDepth 100000 in
theorem TakePack_coded (w : World) (B c : Nat) (A : Option Addr) (b : Int) (r : List Int) (h : Reads w B 1 A (b :: r).length (bs (b :: r))) (hB : B ≤ w.heap.size) (hl : IsB (b :: r)) (hc : (b :: r).length ≤ c) (hm : c ≤ maxLen) (hb2 : 192 ≤ b) (hb3 : b ≤ 223) (k u x : Int) (s : ByteArray) (rest : List Int)
    (hcod : ∀ (W : World) (c : Nat) (A : Option Addr), Reads W B 1 A r.length (bs r) → B ≤ W.heap.size → r.length ≤ c → c ≤ maxLen → Calls Try.prog 25 #[.int .i64 b, .slice A r.length c, .int .i64 2] W (Coded W B (pk k u s x) rest)) :
    Calls Try.prog 13 #[.slice A (b :: r).length c, .int .i64 2] w (Coded w B (pk k u s x) rest) := by
  have H := Lib.hid h
  have hb := hl b (by simp)
  obtain ⟨hb0, hb1⟩ := hb
  have HL : Hid (IsB r) := fun x hx => hl x (by simp [hx])
  have hm' : c ≤ 9223372036854775807 := by unfold maxLen at hm; omega
  have hc' : r.length + 1 ≤ c := by simpa using hc
  obtain ⟨ad, rfl, hadB, hcell⟩ := h.byte (k := 0) (by simp)
  have hcell0 : w.cell? ad = some (.int .u8 b) := by
    rw [Addr.add_zero'] at hcell; simpa using hcell
  have hadb : ad.block < w.heap.size := by omega
  have hR : ∀ A', (A' = if c = 1 then some ad else (some ad).map (·.add 1)) → Reads w B 1 A' r.length (bs r) := fun A' hA' => by
    have := reads_cut (k := 1) h (by simp) hc hA'
    simpa using this
  have HR := Lib.hid hR
  clear h hl hcell hR hc
  have hlen : ((r.length + 1 : Nat) : Int) = (r.length : Int) + 1 := by omega
  clear hlen
  have HCOD : Hid (∀ (W : World) (c : Nat) (A : Option Addr), Reads W B 1 A r.length (bs r) → B ≤ W.heap.size → r.length ≤ c → c ≤ maxLen → Calls Try.prog 25 #[.int .i64 b, .slice A r.length c, .int .i64 2] W (Coded W B (.agg #[.int .i64 k, .int .u64 u, .string s, .int .i64 x, .slice none 0 0]) rest)) := hcod
  clear hcod
  by_cases hc1 : c = 1
  all_goals
    go_enter Try.func13, Try.ntmps13
    go_wp2
    go_quiet (fail)
    go_wp2_with (
      (go_at_call 25)
      go_must (
        (refine (HCOD.out _ _ _ ((((HR.out _ (by first | rw [if_pos hc1] | (rw [if_neg hc1]; rfl))).alloc hB _).alloc (by simp; omega) _).drewN nq) (by simp; omega) (by omega) (by omega)).mono ?_)
        rintro e w1 ⟨A', c', rfl, hl', hcm', hr', hbel⟩
        have hsz := hbel.size
        have hbc := bcell hbel
        obtain ⟨hbc1, hbc2⟩ := hbc
        have HR2 := Lib.hid hr'
        have HBEL : Hid (Below w.heap.size w w1) := (below_drewN (((Below.refl _ w).alloc (Nat.le_refl _) _).alloc (by simp) _) nq).trans (hbel.mono (by simp; omega))
        have HBLK : Hid (Blk w1 w.heap.size 29 _) := Blk.below ((((Blk.new w _ [_, _, _, _, _])).alloc _).drewN nq) hbel (by simp; omega)
        clear hr' hbel))
    refine bodyPost_ret (results_cell2 rfl _ rfl (blk_set5 HBLK.out _ _ _ _ _) Try.underlying29 rfl (by kernel_rfl)) rfl ?_
    exact ⟨A', c', rfl, hl', hcm', reads_set5 HR2.out _ hB _ _ _ _ _, below_set5 HBEL.out _ (Nat.le_refl _) _ _ _ _ _⟩

end Go.Proofs.Ytfhaddnacdjpoaa
