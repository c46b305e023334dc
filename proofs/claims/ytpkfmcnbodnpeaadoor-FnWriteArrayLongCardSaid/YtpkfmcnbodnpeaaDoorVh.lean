/- AMQP: arrays of uints and of longs are written by the thin package. PRINTED by wip/genvh.py. -/
import Derived.Test.YtpkfmcnbodnpeaaDoorVg
namespace Go.Proofs.YtpkfmcnbodnpeaaDoor
open Go.RowKit
set_option linter.unusedVariables false

theorem info_u32 : (Tryd.prog.info? 35).map (fun i => (i.zero, i.size, i.bytes)) = some (some (.int .u32 0), 1, 4) := by kernel_rfl
theorem info_i64 : (Tryd.prog.info? 2).map (fun i => (i.zero, i.size, i.bytes)) = some (some (.int .i64 0), 1, 8) := by kernel_rfl
theorem own_row {w : World} {base n : Nat} {e : TypeId} {A : Option Addr} {c : Nat} {k : IntKind} {l : List Int} (h : w.ownsRow base e 1 (.slice A n c) n (ns k l)) (hn : l.length = n) : RowN w e A k l := by
  rcases h.2 with ⟨hv, h0⟩ | ⟨g, cap, cur, hv, hb, hg, h1, h2, h3, h4⟩
  · exact .inl (List.eq_nil_of_length_eq_zero (by omega))
  · injection hv with hA _ _
    subst hA
    subst hn
    exact .inr ⟨g, cur.toList, rfl, by unfold Blk; simpa using hg, by simpa using h4⟩
theorem RowN.alloc {W : World} {t : TypeId} {A : Option Addr} {k : IntKind} {l : List Int} (h : RowN W t A k l) (o : Obj) : RowN (W.alloc o) t A k l := by
  rcases h with h | ⟨g, cs, hA, hb, ht⟩
  · exact .inl h
  · exact .inr ⟨g, cs, hA, hb.alloc o, ht⟩

set_option maxHeartbeats 4000000 in
set_option maxRecDepth 100000 in
theorem implWriteArrayU_calls (w : World) (A : Option Addr) (c : Nat) (l L : List Int) (h : Reads w w.heap.size 1 A l.length (ns .u32 l)) (hn : l.length ≤ 300) (hL0 : 0 < L.length) (hLl : L.length ≤ 900000)
    (hM : ∀ (W0 W : World) (gb c : Nat) (A : Option Addr), RowN W 35 A .u32 l → Bw W0 W gb gb [] → Calls Tryd.prog 46 #[.slice A l.length c, .pointer (some ⟨gb, 0, none⟩)] W fun e w' => e = .returned .nilIface ∧ Bw W0 w' gb gb L) :
    Calls Tryd.prog 16 #[.slice A l.length c] w (Told w L) := by
  obtain ⟨i0, hi0, hz0, hz1, hz2⟩ := info_parts info_u32
  obtain ⟨w0, hw0⟩ : ∃ w0, w0 = ((w.alloc (.cells #[.slice none 0 0] 22)).alloc (.cells #[.bool false] 4)) := ⟨_, rfl⟩
  have hsz : w0.heap.size = w.heap.size + 1 + 1 := by rw [hw0]; simp
  have hbel0 : Below w.heap.size w w0 := by rw [hw0]; exact ((Below.refl _ w).alloc (Nat.le_refl _) _).alloc (by simp) _
  have HW0 := Lib.hid hw0
  have HSZ := Lib.hid hsz
  have HBEL0 := Lib.hid hbel0
  have H := Lib.hid h
  have HM := Lib.hid hM
  clear hw0 hsz hbel0 h hM
  go_enter_defers Tryd.func16, Tryd.ntmps16
  go_wp2
  go_loopw [4, 10] (fun d i wr => ∃ (k : Nat) (A' : Option Addr) (c' : Nat), k ≤ l.length ∧ i = .int .i64 k ∧ d = .slice A' k c' ∧ Hid (wr.ownsRow w0.heap.size 35 1 (.slice A' k c') k (ns .u32 (l.take k)) ∧ Below w0.heap.size w0 wr)) (fun _ i _ => l.length - (intOf i).toNat)
  case atStart => exact ⟨0, none, 0, Nat.zero_le _, rfl, rfl, ⟨World.ownsRow_nil _ _ _ _, by have := Below.refl w0.heap.size w0; rw [HW0.out] at this ⊢; exact this⟩⟩
  case round =>
    obtain ⟨k, A', c', hk, rfl, rfl, hst⟩ := hrel
    have hsw := HSZ.out
    have hswr := hst.out.2.size
    have hsw1 : w.heap.size + 1 + 1 ≤ wr.heap.size := by omega
    have HSW := Lib.hid hsw
    clear hsw
    by_cases hlt : k < l.length
    · obtain ⟨ad, hA, hadB, hcell0⟩ := ns_at H.out hlt
      subst hA
      have hcell : wr.cell? (ad.add k) = some (.int .u32 (l.getD k 0)) := ((HBEL0.out.trans (hst.out.2.mono (by have := HSW.out; omega))).cell (by rw [block_of_add]; exact hadB)).trans hcell0
      have hsn := ns_snoc .u32 l k hlt
      have HSN := Lib.hid hsn
      clear hcell0 hsn
      generalize l.getD k 0 = x at *
      go_wp2_with (
        (at_builtin)
        go_must (
          (refine wpList_append_any _ rfl (.tmp 14) (.tmp 16) 89 rfl w0.heap.size 35 i0 _ 1 4 Tryd.underlying89 hi0 hz0 hz1 hz2 rfl (by omega) (.slice A' k c') k _ rfl (hst.out.1.alloc _) (wr.heap.size + 1) (some ⟨wr.heap.size, 0, none⟩) 1 1 [.int .u32 x] rfl (reads_one _ _ _) (by simp; rfl) (by simp only [maxLen]; omega) (by omega) (by simp; omega) ?_)
          intro v1 w1 hown1 hg1 hat1
          obtain ⟨A1, c1, rfl⟩ := own_form hown1
          have HO1 := Lib.hid hown1
          have HG1 := Lib.hid hg1
          clear hown1 hg1 hat1))
      go_roundw
      case rel =>
        refine ⟨k + 1, A1, c1, by omega, by go_num, rfl, ?_, ?_⟩
        · rw [← HSN.out]; exact HO1.out
        · exact (hst.out.2.alloc hswr _).grown HG1.out (by simp; omega) (fun j hj => (hst.out.1.lt j hj).1)
      case measure => simp [intOf]; omega
    · obtain rfl : k = l.length := by omega
      have hrow : RowN wr 35 A' .u32 l := own_row (by have := hst.out.1; rwa [List.take_length] at this) rfl
      have HROW := Lib.hid hrow
      have hbn := bw_new wr
      have HBN := Lib.hid hbn
      clear hrow hbn
      go_wp2_with (first
        | (go_at_call 46
           go_must (
             (refine (HM.out wr _ wr.heap.size _ _ (HROW.out.alloc _) HBN.out).mono ?_)
             rintro e w3 ⟨rfl, hb3⟩
             have HB3 := Lib.hid hb3
             clear hb3))
        | (go_at_call 42
           go_must (
             (refine (Bytes_all wr w3 _ _ L HB3.out hL0).mono ?_)
             rintro e w4 ⟨⟨g4, c4, rfl, hr4⟩, n4, rfl⟩
             have HR4 := Lib.hid hr4
             clear hr4))
        | (go_at_call 41
           go_must (
             (have hc := copied_calls (w3.drewN n4) (some ⟨g4, 0, none⟩) c4 (bs L) (by rw [bs_length]; exact HR4.out) (bs_one _) (by rw [bs_length]; omega))
             rw [bs_length] at hc
             refine hc.mono ?_
             rintro e w5 ⟨g5, cs5, rfl, hb5, hcs5, hcm5, ht5, hB5, hbel5⟩
             rw [bs_length] at hcs5 ht5
             rw [bs_length]
             have hbel6 : Below w0.heap.size w0 w5 := hst.out.2.trans ((HB3.out.below.trans ((below_drewN (Below.refl _ w3) n4).trans hbel5 |>.mono (Nat.le_of_lt HB3.out.lt))).mono hswr)
             have hbel7 : Below (w.heap.size + 1 + 1) ((w.alloc (.cells #[.slice none 0 0] 22)).alloc (.cells #[.bool false] 4)) w5 := by rw [← HSW.out]; rw [← HW0.out]; exact hbel6
             obtain ⟨k0, k1⟩ := two_cells (W := w) hbel7
             have r0 := k0.cell 0
             have r1 := k1.cell 0
             have f0 := k0.frozen 0
             have f1 := k1.frozen 0
             have z0 := k0.lt
             have z1 := k1.lt
             have hg5 : w.heap.size + 1 + 1 < g5 := Nat.lt_of_le_of_lt hsw1 (Nat.lt_of_lt_of_le HB3.out.lt hB5)
             have K0 := Lib.hid k0
             have K1 := Lib.hid k1
             have H5 := Lib.hid hb5
             have HT5 := Lib.hid ht5
             have HC5 := Lib.hid hcs5
             have HBEL6 := Lib.hid hbel6
             clear k0 k1 hb5 ht5 hbel5 hbel6 hbel7 hc hB5 hcs5)))
      refine leaves_cons (f := 38) (args := #[.pointer (some ⟨w.heap.size, 0, none⟩), .pointer (some ⟨w.heap.size + 1, 0, none⟩)]) (by simp) (by simp [go_sem]) ?_
      refine (noData_idle _ _ _).mono ?_
      rintro e u' w'' ⟨rfl, rfl, rfl⟩
      have s0 : ((w5.setCell ⟨w.heap.size, 0, none⟩ (.slice (some ⟨g5, 0, none⟩) L.length cs5.length)).setCell ⟨w.heap.size + 1, 0, none⟩ (.bool true)).cell? ⟨w.heap.size, 0, none⟩ = some (.slice (some ⟨g5, 0, none⟩) L.length cs5.length) := ((K0.out.set_ 0 _).far (p := ⟨w.heap.size + 1, 0, none⟩) (by simp) _).cell 0
      have s1 : ((w5.setCell ⟨w.heap.size, 0, none⟩ (.slice (some ⟨g5, 0, none⟩) L.length cs5.length)).setCell ⟨w.heap.size + 1, 0, none⟩ (.bool true)).cell? ⟨w.heap.size + 1, 0, none⟩ = some (.bool true) := ((K1.out.far (p := ⟨w.heap.size, 0, none⟩) (by simp) _).set_ 0 _).cell 0
      refine ⟨_, by simp [results, Tryd.results16, go_sem, s0, s1], g5, cs5, rfl, (H5.out.far (by simp; omega) _).far (by simp; omega) _, HC5.out, hcm5, HT5.out, by omega, ?_⟩
      exact ((HBEL0.out.trans (HBEL6.out.mono (by have := HSW.out; omega))).setCell (by simp) _).setCell (by simp) _

set_option maxHeartbeats 4000000 in
set_option maxRecDepth 100000 in
theorem implWriteArrayI_calls (w : World) (A : Option Addr) (c : Nat) (l L : List Int) (h : Reads w w.heap.size 1 A l.length (ns .i64 l)) (hn : l.length ≤ 300) (hL0 : 0 < L.length) (hLl : L.length ≤ 900000)
    (hM : ∀ (W0 W : World) (gb c : Nat) (A : Option Addr), RowN W 2 A .i64 l → Bw W0 W gb gb [] → Calls Tryd.prog 47 #[.slice A l.length c, .pointer (some ⟨gb, 0, none⟩)] W fun e w' => e = .returned .nilIface ∧ Bw W0 w' gb gb L) :
    Calls Tryd.prog 17 #[.slice A l.length c] w (Told w L) := by
  obtain ⟨i0, hi0, hz0, hz1, hz2⟩ := info_parts info_i64
  obtain ⟨w0, hw0⟩ : ∃ w0, w0 = ((w.alloc (.cells #[.slice none 0 0] 22)).alloc (.cells #[.bool false] 4)) := ⟨_, rfl⟩
  have hsz : w0.heap.size = w.heap.size + 1 + 1 := by rw [hw0]; simp
  have hbel0 : Below w.heap.size w w0 := by rw [hw0]; exact ((Below.refl _ w).alloc (Nat.le_refl _) _).alloc (by simp) _
  have HW0 := Lib.hid hw0
  have HSZ := Lib.hid hsz
  have HBEL0 := Lib.hid hbel0
  have H := Lib.hid h
  have HM := Lib.hid hM
  clear hw0 hsz hbel0 h hM
  go_enter_defers Tryd.func17, Tryd.ntmps17
  go_wp2
  go_loopw [4, 10] (fun d i wr => ∃ (k : Nat) (A' : Option Addr) (c' : Nat), k ≤ l.length ∧ i = .int .i64 k ∧ d = .slice A' k c' ∧ Hid (wr.ownsRow w0.heap.size 2 1 (.slice A' k c') k (ns .i64 (l.take k)) ∧ Below w0.heap.size w0 wr)) (fun _ i _ => l.length - (intOf i).toNat)
  case atStart => exact ⟨0, none, 0, Nat.zero_le _, rfl, rfl, ⟨World.ownsRow_nil _ _ _ _, by have := Below.refl w0.heap.size w0; rw [HW0.out] at this ⊢; exact this⟩⟩
  case round =>
    obtain ⟨k, A', c', hk, rfl, rfl, hst⟩ := hrel
    have hsw := HSZ.out
    have hswr := hst.out.2.size
    have hsw1 : w.heap.size + 1 + 1 ≤ wr.heap.size := by omega
    have HSW := Lib.hid hsw
    clear hsw
    by_cases hlt : k < l.length
    · obtain ⟨ad, hA, hadB, hcell0⟩ := ns_at H.out hlt
      subst hA
      have hcell : wr.cell? (ad.add k) = some (.int .i64 (l.getD k 0)) := ((HBEL0.out.trans (hst.out.2.mono (by have := HSW.out; omega))).cell (by rw [block_of_add]; exact hadB)).trans hcell0
      have hsn := ns_snoc .i64 l k hlt
      have HSN := Lib.hid hsn
      clear hcell0 hsn
      generalize l.getD k 0 = x at *
      go_wp2_with (
        (at_builtin)
        go_must (
          (refine wpList_append_any _ rfl (.tmp 14) (.tmp 16) 90 rfl w0.heap.size 2 i0 _ 1 8 Tryd.underlying90 hi0 hz0 hz1 hz2 rfl (by omega) (.slice A' k c') k _ rfl (hst.out.1.alloc _) (wr.heap.size + 1) (some ⟨wr.heap.size, 0, none⟩) 1 1 [.int .i64 x] rfl (reads_one _ _ _) (by simp; rfl) (by simp only [maxLen]; omega) (by omega) (by simp; omega) ?_)
          intro v1 w1 hown1 hg1 hat1
          obtain ⟨A1, c1, rfl⟩ := own_form hown1
          have HO1 := Lib.hid hown1
          have HG1 := Lib.hid hg1
          clear hown1 hg1 hat1))
      go_roundw
      case rel =>
        refine ⟨k + 1, A1, c1, by omega, by go_num, rfl, ?_, ?_⟩
        · rw [← HSN.out]; exact HO1.out
        · exact (hst.out.2.alloc hswr _).grown HG1.out (by simp; omega) (fun j hj => (hst.out.1.lt j hj).1)
      case measure => simp [intOf]; omega
    · obtain rfl : k = l.length := by omega
      have hrow : RowN wr 2 A' .i64 l := own_row (by have := hst.out.1; rwa [List.take_length] at this) rfl
      have HROW := Lib.hid hrow
      have hbn := bw_new wr
      have HBN := Lib.hid hbn
      clear hrow hbn
      go_wp2_with (first
        | (go_at_call 47
           go_must (
             (refine (HM.out wr _ wr.heap.size _ _ (HROW.out.alloc _) HBN.out).mono ?_)
             rintro e w3 ⟨rfl, hb3⟩
             have HB3 := Lib.hid hb3
             clear hb3))
        | (go_at_call 42
           go_must (
             (refine (Bytes_all wr w3 _ _ L HB3.out hL0).mono ?_)
             rintro e w4 ⟨⟨g4, c4, rfl, hr4⟩, n4, rfl⟩
             have HR4 := Lib.hid hr4
             clear hr4))
        | (go_at_call 41
           go_must (
             (have hc := copied_calls (w3.drewN n4) (some ⟨g4, 0, none⟩) c4 (bs L) (by rw [bs_length]; exact HR4.out) (bs_one _) (by rw [bs_length]; omega))
             rw [bs_length] at hc
             refine hc.mono ?_
             rintro e w5 ⟨g5, cs5, rfl, hb5, hcs5, hcm5, ht5, hB5, hbel5⟩
             rw [bs_length] at hcs5 ht5
             rw [bs_length]
             have hbel6 : Below w0.heap.size w0 w5 := hst.out.2.trans ((HB3.out.below.trans ((below_drewN (Below.refl _ w3) n4).trans hbel5 |>.mono (Nat.le_of_lt HB3.out.lt))).mono hswr)
             have hbel7 : Below (w.heap.size + 1 + 1) ((w.alloc (.cells #[.slice none 0 0] 22)).alloc (.cells #[.bool false] 4)) w5 := by rw [← HSW.out]; rw [← HW0.out]; exact hbel6
             obtain ⟨k0, k1⟩ := two_cells (W := w) hbel7
             have r0 := k0.cell 0
             have r1 := k1.cell 0
             have f0 := k0.frozen 0
             have f1 := k1.frozen 0
             have z0 := k0.lt
             have z1 := k1.lt
             have hg5 : w.heap.size + 1 + 1 < g5 := Nat.lt_of_le_of_lt hsw1 (Nat.lt_of_lt_of_le HB3.out.lt hB5)
             have K0 := Lib.hid k0
             have K1 := Lib.hid k1
             have H5 := Lib.hid hb5
             have HT5 := Lib.hid ht5
             have HC5 := Lib.hid hcs5
             have HBEL6 := Lib.hid hbel6
             clear k0 k1 hb5 ht5 hbel5 hbel6 hbel7 hc hB5 hcs5)))
      refine leaves_cons (f := 38) (args := #[.pointer (some ⟨w.heap.size, 0, none⟩), .pointer (some ⟨w.heap.size + 1, 0, none⟩)]) (by simp) (by simp [go_sem]) ?_
      refine (noData_idle _ _ _).mono ?_
      rintro e u' w'' ⟨rfl, rfl, rfl⟩
      have s0 : ((w5.setCell ⟨w.heap.size, 0, none⟩ (.slice (some ⟨g5, 0, none⟩) L.length cs5.length)).setCell ⟨w.heap.size + 1, 0, none⟩ (.bool true)).cell? ⟨w.heap.size, 0, none⟩ = some (.slice (some ⟨g5, 0, none⟩) L.length cs5.length) := ((K0.out.set_ 0 _).far (p := ⟨w.heap.size + 1, 0, none⟩) (by simp) _).cell 0
      have s1 : ((w5.setCell ⟨w.heap.size, 0, none⟩ (.slice (some ⟨g5, 0, none⟩) L.length cs5.length)).setCell ⟨w.heap.size + 1, 0, none⟩ (.bool true)).cell? ⟨w.heap.size + 1, 0, none⟩ = some (.bool true) := ((K1.out.far (p := ⟨w.heap.size, 0, none⟩) (by simp) _).set_ 0 _).cell 0
      refine ⟨_, by simp [results, Tryd.results17, go_sem, s0, s1], g5, cs5, rfl, (H5.out.far (by simp; omega) _).far (by simp; omega) _, HC5.out, hcm5, HT5.out, by omega, ?_⟩
      exact ((HBEL0.out.trans (HBEL6.out.mono (by have := HSW.out; omega))).setCell (by simp) _).setCell (by simp) _

end Go.Proofs.YtpkfmcnbodnpeaaDoor
