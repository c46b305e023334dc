/- spec.TakePack at arrays of whole numbers. PRINTED by wip/gensi.py. -/
import Derived.Test.YtfhaddnacdjpoaaSh
namespace Go.Proofs.Ytfhaddnacdjpoaa
open Go.RowKit
set_option linter.unusedVariables false

set_option maxHeartbeats 1000000 in
set_option maxRecDepth 100000 in
theorem TakePack_arr (w : World) (B c : Nat) (A : Option Addr) (b : Int) (r : List Int) (h : Reads w B 1 A (b :: r).length (bs (b :: r))) (hB : B ≤ w.heap.size) (hl : IsB (b :: r)) (hc : (b :: r).length ≤ c) (hm : c ≤ maxLen) (n : Nat) (hn : n ≤ 15) (hbn : b = 144 + (n : Int)) (g5 : Int → List Value) (l rest : List Int)
    (hcod : ∀ (W : World) (c : Nat) (A : Option Addr), Reads W B 1 A r.length (bs r) → B ≤ W.heap.size → r.length ≤ c → c ≤ maxLen → Calls Try.prog 23 #[.int .i64 8, .int .i64 (n : Int), .slice A r.length c, .int .i64 3] W (Kids W B g5 l rest)) :
    Calls Try.prog 13 #[.slice A (b :: r).length c, .int .i64 3] w (Kids w B g5 l rest) := by
  have H := Lib.hid h
  have hb := hl b (by simp)
  obtain ⟨hb0, hb1⟩ := hb
  have HL : Hid (IsB r) := fun x hx => hl x (by simp [hx])
  have hm' : c ≤ 9223372036854775807 := by unfold maxLen at hm; omega
  have hc' : r.length + 1 ≤ c := by simpa using hc
  obtain ⟨ad, rfl, hadB, hcell⟩ := h.byte (k := 0) (by simp)
  have hcell0 : w.cell? ad = some (.int .u8 b) := by
    rw [Addr.add_zero'] at hcell; simpa using hcell
  have hadb : ad.block < w.heap.size := by omega
  have hR : ∀ A', (A' = if c = 1 then some ad else (some ad).map (·.add 1)) → Reads w B 1 A' r.length (bs r) := fun A' hA' => by
    have := reads_cut (k := 1) h (by simp) hc hA'
    simpa using this
  have HR := Lib.hid hR
  clear h hl hcell hR hc
  have hlen : ((r.length + 1 : Nat) : Int) = (r.length : Int) + 1 := by omega
  clear hlen
  have HCOD := Lib.hid hcod
  have hbt : bits .and .i64 b 15 = (n : Int) := by
    rw [hbn]
    exact (by decide : ∀ k : Fin 16, bits .and .i64 (144 + (k.val : Int)) 15 = (k.val : Int)) ⟨n, by omega⟩
  have hbn0 : 144 ≤ b := by omega
  have hbn1 : b < 160 := by omega
  clear hbn
  clear hcod
  by_cases hc1 : c = 1
  all_goals
    go_enter Try.func13, Try.ntmps13
    go_wp2
    go_quiet (fail)
    go_wp2_with (
      (go_at_call 23)
      go_must (
        (refine (HCOD.out _ _ _ ((((HR.out _ (by first | rw [if_pos hc1] | (rw [if_neg hc1]; rfl))).alloc hB _).alloc (by simp; omega) _).drewN nq) (by simp; omega) (by omega) (by omega)).mono ?_)
        rintro e w1 ⟨A5, c5, A', c', rfl, hl', hcm', hr', hk', hbel⟩
        have HK := Lib.hid hk'
        have hsz := hbel.size
        have hbc := bcell hbel
        obtain ⟨hbc1, hbc2⟩ := hbc
        have HR2 := Lib.hid hr'
        have HBEL : Hid (Below w.heap.size w w1) := (below_drewN (((Below.refl _ w).alloc (Nat.le_refl _) _).alloc (by simp) _) nq).trans (hbel.mono (by simp; omega))
        have HBLK : Hid (Blk w1 w.heap.size 29 _) := Blk.below ((((Blk.new w _ [_, _, _, _, _])).alloc _).drewN nq) hbel (by simp; omega)
        clear hr' hk' hbel))
    refine bodyPost_ret (results_cell2 rfl _ rfl (blk_set5 HBLK.out _ _ _ _ _) Try.underlying29 rfl (by kernel_rfl)) rfl ?_
    exact ⟨A5, c5, A', c', rfl, hl', hcm', reads_set5 HR2.out _ hB _ _ _ _ _, (own_set5S HK.out (fun h => by have := (HK.out.lt _ h.symm).1; simp at this; omega) _ _ _ _ _).mono (by simp; omega), below_set5 HBEL.out _ (Nat.le_refl _) _ _ _ _ _⟩

set_option maxHeartbeats 1000000 in
set_option maxRecDepth 100000 in
theorem TakePack_codedA (w : World) (B c : Nat) (A : Option Addr) (b : Int) (r : List Int) (h : Reads w B 1 A (b :: r).length (bs (b :: r))) (hB : B ≤ w.heap.size) (hl : IsB (b :: r)) (hc : (b :: r).length ≤ c) (hm : c ≤ maxLen) (hb2 : 192 ≤ b) (hb3 : b ≤ 223) (g5 : Int → List Value) (l rest : List Int)
    (hcod : ∀ (W : World) (c : Nat) (A : Option Addr), Reads W B 1 A r.length (bs r) → B ≤ W.heap.size → r.length ≤ c → c ≤ maxLen → Calls Try.prog 25 #[.int .i64 b, .slice A r.length c, .int .i64 3] W (Kids W B g5 l rest)) :
    Calls Try.prog 13 #[.slice A (b :: r).length c, .int .i64 3] w (Kids w B g5 l rest) := by
  have H := Lib.hid h
  have hb := hl b (by simp)
  obtain ⟨hb0, hb1⟩ := hb
  have HL : Hid (IsB r) := fun x hx => hl x (by simp [hx])
  have hm' : c ≤ 9223372036854775807 := by unfold maxLen at hm; omega
  have hc' : r.length + 1 ≤ c := by simpa using hc
  obtain ⟨ad, rfl, hadB, hcell⟩ := h.byte (k := 0) (by simp)
  have hcell0 : w.cell? ad = some (.int .u8 b) := by
    rw [Addr.add_zero'] at hcell; simpa using hcell
  have hadb : ad.block < w.heap.size := by omega
  have hR : ∀ A', (A' = if c = 1 then some ad else (some ad).map (·.add 1)) → Reads w B 1 A' r.length (bs r) := fun A' hA' => by
    have := reads_cut (k := 1) h (by simp) hc hA'
    simpa using this
  have HR := Lib.hid hR
  clear h hl hcell hR hc
  have hlen : ((r.length + 1 : Nat) : Int) = (r.length : Int) + 1 := by omega
  clear hlen
  have HCOD := Lib.hid hcod
  clear hcod
  by_cases hc1 : c = 1
  all_goals
    go_enter Try.func13, Try.ntmps13
    go_wp2
    go_quiet (fail)
    go_wp2_with (
      (go_at_call 25)
      go_must (
        (refine (HCOD.out _ _ _ ((((HR.out _ (by first | rw [if_pos hc1] | (rw [if_neg hc1]; rfl))).alloc hB _).alloc (by simp; omega) _).drewN nq) (by simp; omega) (by omega) (by omega)).mono ?_)
        rintro e w1 ⟨A5, c5, A', c', rfl, hl', hcm', hr', hk', hbel⟩
        have HK := Lib.hid hk'
        have hsz := hbel.size
        have hbc := bcell hbel
        obtain ⟨hbc1, hbc2⟩ := hbc
        have HR2 := Lib.hid hr'
        have HBEL : Hid (Below w.heap.size w w1) := (below_drewN (((Below.refl _ w).alloc (Nat.le_refl _) _).alloc (by simp) _) nq).trans (hbel.mono (by simp; omega))
        have HBLK : Hid (Blk w1 w.heap.size 29 _) := Blk.below ((((Blk.new w _ [_, _, _, _, _])).alloc _).drewN nq) hbel (by simp; omega)
        clear hr' hk' hbel))
    refine bodyPost_ret (results_cell2 rfl _ rfl (blk_set5 HBLK.out _ _ _ _ _) Try.underlying29 rfl (by kernel_rfl)) rfl ?_
    exact ⟨A5, c5, A', c', rfl, hl', hcm', reads_set5 HR2.out _ hB _ _ _ _ _, (own_set5S HK.out (fun h => by have := (HK.out.lt _ h.symm).1; simp at this; omega) _ _ _ _ _).mono (by simp; omega), below_set5 HBEL.out _ (Nat.le_refl _) _ _ _ _ _⟩

theorem takeBig2 (w : World) (B c n : Nat) (A : Option Addr) (r : List Int) (hn : n < 65536) (h : Reads w B 1 A (be n 2 ++ r).length (bs (be n 2 ++ r))) (hl : IsB (be n 2 ++ r)) (hc : (be n 2 ++ r).length ≤ c) (hm : c ≤ maxLen) :
    Calls Try.prog 37 #[.slice A (be n 2 ++ r).length c, .int .i64 2] w (fun e w' => ∃ A' c' q, e = .returned (.tuple #[.int .u64 (n : Int), .slice A' r.length c', .bool true]) ∧ r.length ≤ c' ∧ c' ≤ c ∧ Reads w' B 1 A' r.length (bs r) ∧ w' = w.drewN q) := by
  have e := takeBig_int w B 2 c 2 rfl A (be n 2 ++ r) h hl (by omega) (by rw [List.length_append, be_length]; omega) hc hm
  refine e.mono ?_
  rintro e w' ⟨A', c', q, rfl, hl', hc', hr', rfl⟩
  have h2 : (be n 2).length = 2 := be_length _ _
  have hv : valBE (be n 2) = n := by
    rw [valBE_be]
    simp only [Int.reducePow]
    omega
  rw [List.drop_left' h2] at hl' hr' ⊢
  rw [List.take_left' h2, hv]
  exact ⟨A', c', q, rfl, hl', hc', hr'.drewN q, rfl⟩

set_option maxHeartbeats 4000000 in
set_option maxRecDepth 100000 in
theorem coded220 (w : World) (B c n N : Nat) (A : Option Addr) (r : List Int) (hN : N = (be n 2 ++ r).length) (h : Reads w B 1 A N (bs (be n 2 ++ r))) (hB : B ≤ w.heap.size) (hl : IsB (be n 2 ++ r)) (hc : N ≤ c) (hm : c ≤ maxLen) (hn : n < 65536) (hnr : n ≤ r.length) (g5 : Int → List Value) (l rest : List Int)
    (hcod : ∀ (W : World) (c : Nat) (A : Option Addr), Reads W B 1 A r.length (bs r) → B ≤ W.heap.size → r.length ≤ c → c ≤ maxLen → Calls Try.prog 23 #[.int .i64 8, .int .i64 (n : Int), .slice A r.length c, .int .i64 3] W (Kids W B g5 l rest)) :
    Calls Try.prog 25 #[.int .i64 220, .slice A N c, .int .i64 3] w (Kids w B g5 l rest) := by
  have htb : ∀ (W : World) (c : Nat) (A : Option Addr), Reads W B 1 A N (bs (be n 2 ++ r)) → N ≤ c → c ≤ maxLen → Calls Try.prog 37 #[.slice A N c, .int .i64 2] W (fun e w' => ∃ A' c' q, e = .returned (.tuple #[.int .u64 (n : Int), .slice A' r.length c', .bool true]) ∧ r.length ≤ c' ∧ c' ≤ c ∧ Reads w' B 1 A' r.length (bs r) ∧ w' = W.drewN q) := fun W c A h hc hm => by
    subst hN
    exact takeBig2 W B c n A r hn h hl hc hm
  have hrl : r.length ≤ c := by rw [hN, List.length_append] at hc; omega
  have hrm : (r.length : Int) ≤ 9223372036854775807 := by unfold maxLen at hm; omega
  have hw1 : IntKind.u64.wrap (r.length : Int) = r.length := by rw [IntKind.wrap_u64]; omega
  have hw2 : IntKind.i64.wrap (n : Int) = n := by rw [IntKind.wrap_i64]; omega
  have hgt : decide ((r.length : Int) < (n : Int)) = false := decide_eq_false (by omega)
  have hgn : (r.length < n) = False := eq_false (by omega)
  have H := Lib.hid h
  have HTB := Lib.hid htb
  have HCOD := Lib.hid hcod
  clear h hl htb hcod hN
  go_enter Try.func25, Try.ntmps25
  go_wp2_with (first
    | ((with_reducible refine gate_makeMap rfl ?_)
       go_must (
         (refine wpList_makeMap_i (w0 := _) rfl 71 rfl (Below.refl _ _) (Nat.le_refl _) ?_)
         intro w1 mb HM))
    | ((with_reducible refine gate_insert rfl ?_)
       go_must (
         (have HM0 := HM)
         clear HM
         refine wpList_insert_i rfl _ _ _ 71 rfl Try.underlying71 _ _ rfl rfl rfl HM0 (by simp only [List.length_cons, List.length_nil]; omega) (by omega) (by omega) (by omega) (by omega) ?_
         intro w1 HM
         clear HM0))
    | ((with_reducible refine gate_lookup rfl ?_)
       go_must (
         (have HM0 := HM)
         clear HM
         refine wpList_lookup_i rfl _ _ 71 rfl Try.underlying71 _ rfl rfl HM0 (by omega) (by omega) 2 rfl ?_
         obtain ⟨-, hbel, -, hsz⟩ := HM0
         have hbc := bcell hbel
         obtain ⟨hbc1, hbc2⟩ := hbc
         have HR : Hid (Reads w1 B 1 A N (bs (be n 2 ++ r))) := Reads.below ((H.out.alloc hB _).alloc (by simp; omega) _) (hbel.mono (by simp; omega))
         have HBEL : Hid (Below w.heap.size w w1) := (((Below.refl _ w).alloc (Nat.le_refl _) _).alloc (by simp) _).trans (hbel.mono (by simp; omega))
         have HBLK : Hid (Blk w1 w.heap.size 29 _) := Blk.below (((Blk.new w _ [_, _, _, _, _])).alloc _) hbel (by simp; omega)
         clear hbel))
    | (go_at_call 37
       go_must (
         (refine (HTB.out _ _ _ HR.out hc hm).mono ?_)
         rintro e w2 ⟨A', c', q, rfl, hl', hc', hr', rfl⟩
         have HR2 := Lib.hid hr'
         clear hr'))
    | (go_at_call 23
       go_must (
         (refine (HCOD.out _ _ _ HR2.out (by have := HBEL.out.size; simp; omega) hl' (by omega)).mono ?_)
         rintro e w3 ⟨A5, c5, A3, c3, rfl, hl3, hm3, hr3, hk3, hbel3⟩
         have HK := Lib.hid hk3
         have HR3 := Lib.hid hr3
         have hq3 : w.heap.size < w1.heap.size := HBLK.out.lt
         have HBEL3 : Hid (Below w.heap.size w w3) := (below_drewN HBEL.out q).trans (hbel3.mono (by have := HBEL.out.size; simpa using this))
         have hblk3 : Blk w3 w.heap.size 29 _ := Blk.below (HBLK.out.drewN q) hbel3 (by simpa using hq3)
         obtain ⟨e0, e1, e2, e3, e4⟩ := blk_cells5 hblk3
         have f0 := hblk3.frozen 0
         have f1 := hblk3.frozen 1
         have f2 := hblk3.frozen 2
         have f3 := hblk3.frozen 3
         have f4 := hblk3.frozen 4
         have hz3 := hblk3.lt
         have HBLK3 := Lib.hid hblk3
         clear hr3 hk3 hbel3 hblk3)))
  refine bodyPost_ret (results_cell2 rfl _ rfl (blk_set5 HBLK3.out _ _ _ _ _) Try.underlying29 rfl (by kernel_rfl)) rfl ?_
  exact ⟨A5, c5, A3, c3, rfl, hl3, hm3, reads_set5 HR3.out _ hB _ _ _ _ _, (own_set5S HK.out (fun h => by have := (HK.out.lt _ h.symm).1; simp at this; omega) _ _ _ _ _).mono (by simp; omega), below_set5 HBEL3.out _ (Nat.le_refl _) _ _ _ _ _⟩

end Go.Proofs.Ytfhaddnacdjpoaa
