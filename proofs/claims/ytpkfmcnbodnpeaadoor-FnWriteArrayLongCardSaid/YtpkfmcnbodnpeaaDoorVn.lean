/- AMQP: the walk of FnWriteArrayLong. PRINTED by wip/genvn.py. -/
import Derived.Test.YtpkfmcnbodnpeaaDoorVm
namespace Go.Proofs.YtpkfmcnbodnpeaaDoor
open Go.RowKit Go.Maps
set_option linter.unusedVariables false

theorem kr_new (W : World) (t : TypeId) (cs : List Value) (base : Nat) (hb : base ≤ W.heap.size) (h : cs.length = 6) : KR (W.alloc (.cells cs.toArray t)) base (some ⟨W.heap.size, 0, none⟩) 1 cs :=
  ⟨by omega, fun _ => ⟨W.heap.size, rfl, hb, by simp, fun j u hu => by rw [(Blk.new W t cs).cell]; exact hu⟩⟩

theorem ask_of {l : List Int} (h : (!(lowB l) || highB l) = true) (hb : ∀ x ∈ l, x ≤ 127) : ∀ x ∈ l, -128 ≤ x := by
  have h2 : highB l = false := by
    unfold highB
    rw [List.any_eq_false]
    intro x hx
    have := hb x hx
    simp
    omega
  rw [h2] at h
  intro x hx
  have h1 : lowB l = false := by cases hh : lowB l <;> simp_all
  unfold lowB at h1
  rw [List.any_eq_false] at h1
  have := h1 x hx
  simp at this
  omega

set_option maxHeartbeats 8000000 in
set_option maxRecDepth 100000 in
theorem FnWriteArrayLong_walk (w : World) (A : Option Addr) (c : Nat) (l : List Int) (h : Reads w w.heap.size 1 A l.length (ns .i64 l)) (hl : ∀ x ∈ l, -9223372036854775808 ≤ x ∧ x ≤ 9223372036854775807) :
    Calls Tryd.prog 6 #[.slice A l.length c] w fun e w' => e = .returned (.bool true) ∧ Below w.heap.size w w' := by
  by_cases hz : 2147483647 < l.length
  · have hd : decide ((2147483647 : Int) < (l.length : Int)) = true := by simp; omega
    go_enter Tryd.func6, Tryd.ntmps6
    go_wp2
    go_ret
    exact ⟨rfl, Below.refl _ _⟩
  have hd : decide ((2147483647 : Int) < (l.length : Int)) = false := by simp; omega
  obtain ⟨L5, hL50, hL51, hM5, hW5⟩ := arrI [5] (by simp) (by simp) (by simp)
  obtain ⟨i0, hI0, hI1, hI2, hI3⟩ := info_parts info_val
  have HM5 := Lib.hid hM5
  have HW5 := Lib.hid hW5
  have H := Lib.hid h
  have HL := Lib.hid hl
  clear hM5 hW5 h hl
  go_enter Tryd.func6, Tryd.ntmps6
  go_wp2_with (first
    | (go_at_call 17
       go_must (
         (refine ((implWriteArrayI_calls (w.alloc (.cells #[.int .i64 5] 2)) (some ⟨w.heap.size, 0, none⟩) 1 [5] L5 ((reads_one w (.int .i64 5) 2).more (by simp)) (by simp) hL50 hL51 HM5.out).mono fun e w' h => told_n h rfl).mono ?_)
         rintro r w1 ⟨g1, c1, rfl, hc1, hm1, hr1', hb1⟩
         have HR1 := Lib.hid hr1'
         have HB1 : Hid (Below w.heap.size w w1) := ((Below.refl _ w).alloc (Nat.le_refl _) _).trans (hb1.mono (by simp))
         clear hr1' hb1))
    | (go_at_call 14
       go_must (
         (refine (HW5.out (w1.alloc (.cells (c6 9 5).toArray 29)) w1.heap.size c1 1 w1.heap.size _ (some ⟨w1.heap.size, 0, none⟩) (HR1.out.alloc (Nat.le_refl _) _) (by simp) hc1 hm1 (kr_new w1 29 (c6 9 5) w1.heap.size (Nat.le_refl _) rfl)).mono ?_)
         rintro r w2 ⟨rfl, hb2⟩
         have HB2 : Hid (Below w.heap.size w w2) := (HB1.out.alloc (HB1.out.size) _).trans (hb2.mono (by have := HB1.out.size; simp; omega))
         clear hb2)))
  have hs2 := HB2.out.size
  go_loopw [28] (fun i wr => ∃ (j : Nat) (A' : Option Addr) (c' : Nat), j ≤ l.length ∧ i = .int .i64 j ∧ Hid (wr.ownsRow (w2.heap.size + 1) 29 6 (.slice A' j c') j ((l.take j).flatMap fun x => c6 9 (IntKind.u64.wrap x)) ∧ Blk wr w2.heap.size 29 [.int .i64 23, .int .u64 0, .string ByteArray.empty, .slice A' j c', .int .i64 0, .slice none 0 0] ∧ Below w.heap.size w wr ∧ w2.heap.size + 1 ≤ wr.heap.size)) (fun i _ => l.length - (intOf i).toNat)
  case atStart => exact ⟨0, none, 0, Nat.zero_le _, rfl, World.ownsRow_nil _ _ _ _, Blk.new w2 29 [_, _, _, _, _, _], HB2.out.alloc hs2 _, by simp⟩
  case round =>
    obtain ⟨j, A', c', hj, rfl, hst⟩ := hrel
    have hwr := hst.out.2.2.2
    have g0 : w2.heap.size < wr.heap.size := by omega
    have u3 : wr.cell? ⟨w2.heap.size, 3, none⟩ = some (.slice A' j c') := hst.out.2.1.cell 3
    by_cases hlt : j < l.length
    · obtain ⟨ad, hA, hadB, hcell0⟩ := ns_at H.out hlt
      subst hA
      have hcell : wr.cell? (ad.add j) = some (.int .i64 (l.getD j 0)) := (hst.out.2.2.1.cell (by rw [block_of_add]; exact hadB)).trans hcell0
      have hx := HL.out (l.getD j 0) (getD_mem2 l j hlt)
      obtain ⟨hx0, hx1⟩ := hx
      have hsn := fl6_snoc (fun x => IntKind.u64.wrap x) 9 l j hlt
      have HSN := Lib.hid hsn
      clear hcell0 hsn
      obtain ⟨x, hX⟩ : ∃ x, x = l.getD j 0 := ⟨_, rfl⟩
      rw [← hX] at hcell hx0 hx1
      have HX := Lib.hid hX
      clear hX
      go_wp2_with (
        (at_builtin)
        go_must (
          (refine wpList_append_any _ rfl (.tmp 33) (.tmp 37) 27 rfl (w2.heap.size + 1) 29 i0 _ 6 88 Tryd.underlying27 hI0 hI1 hI2 hI3 rfl (by omega) (.slice A' j c') j ((l.take j).flatMap fun x => c6 9 (IntKind.u64.wrap x)) rfl (hst.out.1.alloc _) (wr.heap.size + 1) (some ⟨wr.heap.size, 0, none⟩) 1 1 (c6 9 (IntKind.u64.wrap x)) rfl (reads_one6 _ 29 (c6 9 (IntKind.u64.wrap x)) wr.heap.size (by simp) rfl) (c6_one _ _) (by simp only [maxLen]; omega) (by omega) (by simp; omega) ?_)
          intro v1 w5 hown1 hg1 hat1
          obtain ⟨A5, c5, rfl⟩ := own_form hown1
          have hnb : some w2.heap.size ≠ (Value.slice A' j c').ownBlock := fun h => by have := (hst.out.1.lt _ h.symm).1; omega
          have bv5 := Blk.grown (hst.out.2.1.alloc _) hg1 hnb
          have n3 : w5.cell? ⟨w2.heap.size, 3, none⟩ = some (.slice A' j c') := bv5.cell 3
          have nf3 := bv5.frozen 3
          have hz5 := bv5.lt
          have BV5 := Lib.hid bv5
          have HO1 := Lib.hid hown1
          have HG1 := Lib.hid hg1
          clear hown1 hg1 hat1 bv5 hnb))
      go_roundw
      case rel =>
        refine ⟨j + 1, A5, c5, by omega, by go_num, ?_, BV5.out.set_ 3 _, ?_, ?_⟩
        · refine own_setI ?_ (fun h => by have := (HO1.out.lt _ h.symm).1; omega)
          rw [HSN.out, ← HX.out]
          exact HO1.out
        · exact ((hst.out.2.2.1.alloc (by omega) _).grown HG1.out (by simp; omega) (fun kk hk => by have := (hst.out.1.lt _ hk).1; omega)).setCell (by simp; omega) _
        · have := HG1.out.size
          simp at this
          simp
          omega
      case measure => simp [intOf]; omega
    · obtain rfl : j = l.length := by omega
      by_cases h300 : 300 < l.length
      · have hd3 : decide ((300 : Int) < (l.length : Int)) = true := by simp; omega
        go_wp2
        go_ret
        exact ⟨rfl, hst.out.2.2.1⟩
      · have hd3 : decide ((300 : Int) < (l.length : Int)) = false := by simp; omega
        have hown := hst.out.1
        rw [List.take_length] at hown
        have HKR := Lib.hid (kr_own hown)
        have hswr := hst.out.2.2.1.size
        have hask := ArrayAsked_calls wr A' c' (w2.heap.size + 1) l HL.out (by omega) HKR.out
        clear hown
        by_cases hA : (!(lowB l) || highB l) = true
        · rw [hA] at hask
          have HASK := Lib.hid hask
          clear hask
          obtain ⟨L, hL0, hL1, hM, hW⟩ := arrI l HL.out (ask_of hA) (by omega)
          have HM := Lib.hid hM
          have HW := Lib.hid hW
          have hR : Reads wr wr.heap.size 1 A l.length (ns .i64 l) := (H.out.below hst.out.2.2.1).more hswr
          have HR := Lib.hid hR
          clear hM hW hR hA
          go_wp2_with (first
            | (go_at_call 18
               go_must (
                 (refine HASK.out.mono ?_)
                 rintro r wA ⟨rfl, hbA⟩
                 have hsA := hbA.size
                 have HBA := Lib.hid hbA
                 clear hbA))
            | (go_at_call 17
               go_must (
                 (refine ((implWriteArrayI_calls wA A c l L ((HR.out.below HBA.out).more hsA) (by omega) hL0 hL1 HM.out).mono fun e w' h => told_n h rfl).mono ?_)
                 rintro r w5 ⟨g5, c5, rfl, hc5, hm5, hr5, hb5⟩
                 have bv5 := (hst.out.2.1.below HBA.out g0).below hb5 (by omega)
                 obtain ⟨k0, k1, k2, k3, k4, k5⟩ := blk_cells6 bv5
                 have hz5 := bv5.lt
                 have HR5 := Lib.hid hr5
                 have HB5 := Lib.hid hb5
                 clear hr5 hb5 bv5))
            | (go_at_call 14
               go_must (
                 (refine (HW.out w5 w5.heap.size c5 c' (w2.heap.size + 1) _ A' HR5.out (Nat.le_refl _) hc5 hm5 ((HKR.out.below HBA.out).below HB5.out)).mono ?_)
                 rintro r w6 ⟨rfl, hb6⟩
                 have HB6 := Lib.hid hb6
                 clear hb6)))
          go_ret
          have s5 := HB5.out.size
          exact ⟨rfl, ((hst.out.2.2.1.trans (HBA.out.mono hswr)).trans (HB5.out.mono (by omega))).trans (HB6.out.mono (by omega))⟩
        · rw [Bool.eq_false_iff.mpr hA] at hask
          have HASK := Lib.hid hask
          clear hask
          go_wp2_with (
            (go_at_call 18
             go_must (
               (refine HASK.out.mono ?_)
               rintro r wA ⟨rfl, hbA⟩
               have HBA := Lib.hid hbA
               clear hbA)))
          go_ret
          exact ⟨rfl, hst.out.2.2.1.trans (HBA.out.mono hswr)⟩
end Go.Proofs.YtpkfmcnbodnpeaaDoor
