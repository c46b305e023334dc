/- AMQP: impl.ReadUnsigned. PRINTED by wip/genis.py. -/
import Derived.Test.YtjjhckbidcdkcaaDoorIr
import Derived.Defers
import Derived.Recover
namespace Go.Proofs.YtjjhckbidcdkcaaDoor
open Go.RowKit
set_option linter.unusedVariables false

theorem Reads.far {w : World} {B g n : Nat} {xs : List Value} (h : Reads w B 1 (some ⟨g, 0, none⟩) n xs) {p : Addr} (hp : g ≠ p.block) (u : Value) : Reads (w.setCell p u) B 1 (some ⟨g, 0, none⟩) n xs := by
  refine ⟨h.1, fun hn => ?_⟩
  obtain ⟨ad, had, hlt, hce⟩ := h.2 hn
  injection had with had
  subst had
  refine ⟨_, rfl, hlt, fun j x hx => ?_⟩
  have h1 := hce j x hx
  rw [add_lit] at h1 ⊢
  have h2 := Below.heap_setCell w p u g hp
  simp only [World.cell?] at h1 ⊢
  rw [h2]
  exact h1
/-- The three cells of the results. -/
theorem three_cells {w W' : World} {t1 t2 t3 : TypeId} {a b c : Value} (hb : Below (w.heap.size + 1 + 1 + 1) (((w.alloc (.cells #[a] t1)).alloc (.cells #[b] t2)).alloc (.cells #[c] t3)) W') :
    Blk W' w.heap.size t1 [a] ∧ Blk W' (w.heap.size + 1) t2 [b] ∧ Blk W' (w.heap.size + 1 + 1) t3 [c] := by
  refine ⟨(((Blk.new w t1 [a]).alloc _).alloc _).below hb (by omega), ?_, ?_⟩
  · have := Blk.new (w.alloc (.cells #[a] t1)) t2 [b]
    rw [show (w.alloc (.cells #[a] t1)).heap.size = w.heap.size + 1 by simp] at this
    exact (this.alloc _).below hb (by omega)
  · have := Blk.new ((w.alloc (.cells #[a] t1)).alloc (.cells #[b] t2)) t3 [c]
    rw [show ((w.alloc (.cells #[a] t1)).alloc (.cells #[b] t2)).heap.size = w.heap.size + 1 + 1 by simp] at this
    exact this.below hb (by omega)
/-- What a reader of impl tells. -/
def IPost (mk : Int → Value) (zero : Value) (p : Option (Int × Nat)) (d : List Int) (w : World) (e : Ending) (w' : World) : Prop :=
  Below w.heap.size w w' ∧ match p with
  | some (v, j) => ∃ A c, e = .returned (.tuple #[mk v, .slice A (d.length - j) c, .bool true]) ∧ Reads w' w'.heap.size 1 A (d.length - j) (bs (d.drop j))
  | none => e = .returned (.tuple #[zero, .slice none 0 0, .bool false])
/-- The deferred 'noValue', where nothing has panicked. -/
theorem noValue_ReadUnsigned (p q r : Addr) (w : World) :
    CallsD Tryd.prog 28 #[.pointer (some p), .pointer (some q), .pointer (some r)] .returning w fun e u' w' => e = .returned (.tuple #[]) ∧ u' = .returning ∧ w' = w := by
  refine callsD_of_wpS Tryd.func28 rfl fun c₀ cs hu => ?_
  apply wpS_seq
  apply wpS_region
  simp [wpOpsS, go_sem, recoverD, hu, Tryd.ntmps28, Exit.thenS]
  refine wpS_cond (t := false) (by simp [Act.eval, Array.replicate]) ?_
  simp only [Bool.false_eq_true, if_false]
  refine wpS_of_wp (wp_skip ?_)
  cases c₀
  simp_all [bodyPostS, results, Tryd.results28]
set_option maxHeartbeats 1000000 in
theorem behind_ReadUnsigned_no (w : World) (x r : Value) (t : TypeId) (y : Value) :
    Calls Tryd.prog 32 #[x, r, .iface t y] w fun e w' => e = .returned (.tuple #[.int .u64 0, .slice none 0 0, .bool false]) ∧ w' = w := by
  go_enter Tryd.func32, Tryd.ntmps32
  go_wp2
  go_ret3
  exact ⟨rfl, rfl⟩
set_option maxHeartbeats 1000000 in
theorem behind_ReadUnsigned_yes (w : World) (gb : Nat) (d : List Int) (j : Nat) (x : Value) (h : RdS w gb d j) :
    Calls Tryd.prog 32 #[x, .pointer (some ⟨gb, 0, none⟩), .nilIface] w fun e w' => ∃ g cs, e = .returned (.tuple #[x, .slice (some ⟨g, 0, none⟩) (d.length - j) cs, .bool true]) ∧ Reads w' w'.heap.size 1 (some ⟨g, 0, none⟩) (d.length - j) (bs (d.drop j)) ∧ Below w.heap.size w w' ∧ w.heap.size ≤ g := by
  have hle : d.length ≤ 100000000 := by
    obtain ⟨A, c, _, _, _, _, _, h5, _⟩ := h
    exact h5
  have H := Lib.hid h
  clear h
  go_enter Tryd.func32, Tryd.ntmps32
  go_wp2_with (first
      | (go_at_call 39
         go_must (
           (refine (Bytes_rest w gb d j H.out).mono ?_)
           rintro e w2 ⟨⟨A2, c2, rfl, hr2⟩, n2, rfl⟩
           have HR2 := Lib.hid hr2
           clear hr2))
      | (go_at_call 30
         go_must (
           (have hc := copied_b (w.drewN n2) A2 c2 (d.drop j) (by rw [List.length_drop]; exact HR2.out) (by rw [List.length_drop]; omega))
           rw [List.length_drop] at hc
           refine hc.mono ?_
           rintro e w5 ⟨g5, cs5, rfl, hb5, hcs5, hcm5, ht5, hB5, hbel5⟩
           have hr5 := bs_reads hb5 hcs5 ht5
           rw [List.length_drop] at hr5
           rw [List.length_drop]
           have HR5 := Lib.hid hr5
           have HBE5 := Lib.hid ((below_drewN (Below.refl w.heap.size w) n2).trans hbel5)
           have HG5 := Lib.hid hB5
           clear hc hb5 hcs5 hcm5 ht5 hB5 hbel5 hr5)))
  go_ret3
  exact ⟨g5, cs5.length, rfl, HR5.out, HBE5.out, HG5.out⟩
set_option maxHeartbeats 1000000 in
theorem ReadUint_door (w : World) (gb : Nat) (d : List Int) (h : RdS w gb d 0) (hB : IsByt d) (hE : EofS w gb) (p : Option (Int × Nat)) (hp : preadUint d = p) :
    Calls Tryd.prog 31 #[.pointer (some ⟨gb, 0, none⟩)] w (RPost (fun v => .int .u64 v) p gb d w) := by
  have hcl := readUint_calls w gb d h hB hE
  rw [hp] at hcl
  have HC := Lib.hid hcl
  clear hcl h hB hE hp
  cases p with
  | none =>
    go_enter Tryd.func31, Tryd.ntmps31
    go_wp2_with (first
      | (go_at_call 61
         go_must (
           (refine HC.out.mono ?_)
           rintro e w1 ⟨⟨x1, t1, y1, rfl⟩, hb1⟩
           have HB1 := Lib.hid hb1
           clear hb1)))
    go_ret2
    exact ⟨⟨_, _, _, rfl⟩, HB1.out⟩
  | some q =>
    obtain ⟨v, j⟩ := q
    go_enter Tryd.func31, Tryd.ntmps31
    go_wp2_with (first
      | (go_at_call 61
         go_must (
           (refine HC.out.mono ?_)
           rintro e w1 ⟨rfl, h1, hb1⟩
           have H1 := Lib.hid h1
           have HB1 := Lib.hid hb1
           clear h1 hb1)))
    go_ret2
    exact ⟨rfl, H1.out, HB1.out⟩
set_option maxHeartbeats 2000000 in
set_option maxRecDepth 100000 in
theorem implReadUnsigned_calls (w : World) (A : Option Addr) (c : Nat) (d : List Int) (hr : Reads w w.heap.size 1 A d.length (bs d)) (hl : d.length ≤ 100000000) (hB : IsByt d) (hE : EofS w w.heap.size) (p : Option (Int × Nat)) (hp : preadUint d = p) :
    Calls Tryd.prog 10 #[.slice A d.length c] w (IPost (fun v => .int .u64 v) (.int .u64 0) p d w) := by
  obtain ⟨w0, hw0⟩ : ∃ w0, w0 = (((w.alloc (.cells #[.int .u64 0] 22)).alloc (.cells #[.slice none 0 0] 26)).alloc (.cells #[.bool false] 4)) := ⟨_, rfl⟩
  have hsz : w0.heap.size = w.heap.size + 1 + 1 + 1 := by rw [hw0]; simp
  have hbel0 : Below w.heap.size w w0 := by rw [hw0]; exact (((Below.refl _ w).alloc (Nat.le_refl _) _).alloc (by simp) _).alloc (by simp; omega) _
  have HW0 := Lib.hid hw0
  have HSZ := Lib.hid hsz
  have HBEL0 := Lib.hid hbel0
  have HR := Lib.hid hr
  have HBY := Lib.hid hB
  have HEOF := Lib.hid hE
  have HP := Lib.hid hp
  clear hw0 hsz hbel0 hr hB hE hp
  cases p with
  | none =>
    go_enter_defers Tryd.func10, Tryd.ntmps10
    go_wp2_with (first
      | (go_at_call 30
         go_must (
           (rw [← HW0.out])
           refine (copied_b w0 A c d (HR.out.below HBEL0.out |>.more HBEL0.out.size) (by omega)).mono ?_
           rintro e w2 ⟨g2, cs2, rfl, hb2, hcs2, hcm2, ht2, hB2, hbel2⟩
           have HR2 := Lib.hid (bs_reads hb2 hcs2 ht2)
           have HBE2 := Lib.hid hbel2
           have HC2 := Lib.hid (And.intro hcs2 hcm2)
           clear hb2 hcs2 hcm2 ht2 hB2 hbel2))
      | (go_at_call 29
         go_must (
           (refine (New_calls w2 (some ⟨g2, 0, none⟩) d cs2.length (.inr ⟨g2, rfl⟩) HC2.out.1 HC2.out.2 hl HR2.out).mono ?_)
           rintro e w3 ⟨rfl, h3, hb3⟩
           have hz2 : w0.heap.size ≤ w2.heap.size := HBE2.out.size
           have hbe3 : Below w0.heap.size w0 w3 := HBE2.out.trans (hb3.mono hz2)
           have H3 := Lib.hid h3
           have HE3 : Hid (EofS w3 w2.heap.size) := Lib.hid ⟨Nat.lt_of_lt_of_le HEOF.out.1 (Nat.le_trans HBEL0.out.size hz2), (by obtain ⟨h1, te, ve, h2⟩ := HEOF.out; exact ⟨te, ve, ((HBEL0.out.trans (hbe3.mono HBEL0.out.size)).cell h1).trans h2⟩)⟩
           have HB3 := Lib.hid hbe3
           clear h3 hb3 hbe3))
      | (go_at_call 31
         go_must (
           (refine (ReadUint_door w3 w2.heap.size d H3.out HBY.out HE3.out _ HP.out).mono ?_)
           rintro e w4 ⟨⟨x4, t4, y4, rfl⟩, hb4⟩
           have HB4 := Lib.hid (HB3.out.trans (hb4.mono hz2))
           skip
           clear hb4 ))
      | (go_at_call 32
         go_must (
           (refine (behind_ReadUnsigned_no w4 _ _ _ _).mono ?_)
           rintro e w5 ⟨rfl, rfl⟩
           have hbel6 : Below w0.heap.size w0 w5 := HB4.out
           have hbel7 := hbel6
           rw [HSZ.out, HW0.out] at hbel7
           obtain ⟨k0, k1, k2⟩ := three_cells (w := w) hbel7
           have r0 := k0.cell 0
           have r1 := k1.cell 0
           have r2 := k2.cell 0
           have f0 := k0.frozen 0
           have f1 := k1.frozen 0
           have f2 := k2.frozen 0
           have z0 := k0.lt
           have z1 := k1.lt
           have z2 := k2.lt
           have K0 := Lib.hid k0
           have K1 := Lib.hid k1
           have K2 := Lib.hid k2
           skip
           skip
           have HB6 := Lib.hid hbel6
           clear k0 k1 k2 hbel6 hbel7 )))
    refine leaves_cons (f := 28) (args := #[.pointer (some ⟨w.heap.size, 0, none⟩), .pointer (some ⟨w.heap.size + 1, 0, none⟩), .pointer (some ⟨w.heap.size + 1 + 1, 0, none⟩)]) (by simp) (by simp [go_sem]) ?_
    refine (noValue_ReadUnsigned _ _ _ _).mono ?_
    rintro e u' w'' ⟨rfl, rfl, rfl⟩
    have s0 : (((w5.setCell ⟨w.heap.size, 0, none⟩ (.int .u64 0)).setCell ⟨w.heap.size + 1, 0, none⟩ (.slice none 0 0)).setCell ⟨w.heap.size + 1 + 1, 0, none⟩ (.bool false)).cell? ⟨w.heap.size, 0, none⟩ = some (.int .u64 0) := (((K0.out.set_ 0 _).far (p := ⟨w.heap.size + 1, 0, none⟩) (by simp) _).far (p := ⟨w.heap.size + 1 + 1, 0, none⟩) (by simp; omega) _).cell 0
    have s1 : (((w5.setCell ⟨w.heap.size, 0, none⟩ (.int .u64 0)).setCell ⟨w.heap.size + 1, 0, none⟩ (.slice none 0 0)).setCell ⟨w.heap.size + 1 + 1, 0, none⟩ (.bool false)).cell? ⟨w.heap.size + 1, 0, none⟩ = some (.slice none 0 0) := (((K1.out.far (p := ⟨w.heap.size, 0, none⟩) (by simp) _).set_ 0 _).far (p := ⟨w.heap.size + 1 + 1, 0, none⟩) (by simp) _).cell 0
    have s2 : (((w5.setCell ⟨w.heap.size, 0, none⟩ (.int .u64 0)).setCell ⟨w.heap.size + 1, 0, none⟩ (.slice none 0 0)).setCell ⟨w.heap.size + 1 + 1, 0, none⟩ (.bool false)).cell? ⟨w.heap.size + 1 + 1, 0, none⟩ = some (.bool false) := (((K2.out.far (p := ⟨w.heap.size, 0, none⟩) (by simp; omega) _).far (p := ⟨w.heap.size + 1, 0, none⟩) (by simp) _).set_ 0 _).cell 0
    have hbf : Below w.heap.size w (((w5.setCell ⟨w.heap.size, 0, none⟩ (.int .u64 0)).setCell ⟨w.heap.size + 1, 0, none⟩ (.slice none 0 0)).setCell ⟨w.heap.size + 1 + 1, 0, none⟩ (.bool false)) := (((HBEL0.out.trans (HB6.out.mono HBEL0.out.size)).setCell (p := ⟨w.heap.size, 0, none⟩) (by simp) _).setCell (p := ⟨w.heap.size + 1, 0, none⟩) (by simp) _).setCell (p := ⟨w.heap.size + 1 + 1, 0, none⟩) (by simp; omega) _
    refine ⟨.tuple #[.int .u64 0, .slice none 0 0, .bool false], by simp [results, Tryd.results10, go_sem, s0, s1, s2], hbf, ?_⟩
    rfl
  | some q =>
    obtain ⟨v, j⟩ := q
    go_enter_defers Tryd.func10, Tryd.ntmps10
    go_wp2_with (first
      | (go_at_call 30
         go_must (
           (rw [← HW0.out])
           refine (copied_b w0 A c d (HR.out.below HBEL0.out |>.more HBEL0.out.size) (by omega)).mono ?_
           rintro e w2 ⟨g2, cs2, rfl, hb2, hcs2, hcm2, ht2, hB2, hbel2⟩
           have HR2 := Lib.hid (bs_reads hb2 hcs2 ht2)
           have HBE2 := Lib.hid hbel2
           have HC2 := Lib.hid (And.intro hcs2 hcm2)
           clear hb2 hcs2 hcm2 ht2 hB2 hbel2))
      | (go_at_call 29
         go_must (
           (refine (New_calls w2 (some ⟨g2, 0, none⟩) d cs2.length (.inr ⟨g2, rfl⟩) HC2.out.1 HC2.out.2 hl HR2.out).mono ?_)
           rintro e w3 ⟨rfl, h3, hb3⟩
           have hz2 : w0.heap.size ≤ w2.heap.size := HBE2.out.size
           have hbe3 : Below w0.heap.size w0 w3 := HBE2.out.trans (hb3.mono hz2)
           have H3 := Lib.hid h3
           have HE3 : Hid (EofS w3 w2.heap.size) := Lib.hid ⟨Nat.lt_of_lt_of_le HEOF.out.1 (Nat.le_trans HBEL0.out.size hz2), (by obtain ⟨h1, te, ve, h2⟩ := HEOF.out; exact ⟨te, ve, ((HBEL0.out.trans (hbe3.mono HBEL0.out.size)).cell h1).trans h2⟩)⟩
           have HB3 := Lib.hid hbe3
           clear h3 hb3 hbe3))
      | (go_at_call 31
         go_must (
           (refine (ReadUint_door w3 w2.heap.size d H3.out HBY.out HE3.out _ HP.out).mono ?_)
           rintro e w4 ⟨rfl, h4, hb4⟩
           have HB4 := Lib.hid (HB3.out.trans (hb4.mono hz2))
           have H4 := Lib.hid h4
           clear hb4 h4))
      | (go_at_call 32
         go_must (
           (refine (behind_ReadUnsigned_yes w4 w2.heap.size d j _ H4.out).mono ?_)
           rintro e w5 ⟨g5, c5, rfl, hr5, hb5, hg5⟩
           have hbel6 : Below w0.heap.size w0 w5 := HB4.out.trans (hb5.mono HB4.out.size)
           have hbel7 := hbel6
           rw [HSZ.out, HW0.out] at hbel7
           obtain ⟨k0, k1, k2⟩ := three_cells (w := w) hbel7
           have r0 := k0.cell 0
           have r1 := k1.cell 0
           have r2 := k2.cell 0
           have f0 := k0.frozen 0
           have f1 := k1.frozen 0
           have f2 := k2.frozen 0
           have z0 := k0.lt
           have z1 := k1.lt
           have z2 := k2.lt
           have K0 := Lib.hid k0
           have K1 := Lib.hid k1
           have K2 := Lib.hid k2
           have HR5 := Lib.hid hr5
           have HG5 := Lib.hid (Nat.le_trans HB4.out.size hg5)
           have HB6 := Lib.hid hbel6
           clear k0 k1 k2 hbel6 hbel7 hr5 hb5 hg5)))
    refine leaves_cons (f := 28) (args := #[.pointer (some ⟨w.heap.size, 0, none⟩), .pointer (some ⟨w.heap.size + 1, 0, none⟩), .pointer (some ⟨w.heap.size + 1 + 1, 0, none⟩)]) (by simp) (by simp [go_sem]) ?_
    refine (noValue_ReadUnsigned _ _ _ _).mono ?_
    rintro e u' w'' ⟨rfl, rfl, rfl⟩
    have s0 : (((w5.setCell ⟨w.heap.size, 0, none⟩ (.int .u64 v)).setCell ⟨w.heap.size + 1, 0, none⟩ (.slice (some ⟨g5, 0, none⟩) (d.length - j) c5)).setCell ⟨w.heap.size + 1 + 1, 0, none⟩ (.bool true)).cell? ⟨w.heap.size, 0, none⟩ = some (.int .u64 v) := (((K0.out.set_ 0 _).far (p := ⟨w.heap.size + 1, 0, none⟩) (by simp) _).far (p := ⟨w.heap.size + 1 + 1, 0, none⟩) (by simp; omega) _).cell 0
    have s1 : (((w5.setCell ⟨w.heap.size, 0, none⟩ (.int .u64 v)).setCell ⟨w.heap.size + 1, 0, none⟩ (.slice (some ⟨g5, 0, none⟩) (d.length - j) c5)).setCell ⟨w.heap.size + 1 + 1, 0, none⟩ (.bool true)).cell? ⟨w.heap.size + 1, 0, none⟩ = some (.slice (some ⟨g5, 0, none⟩) (d.length - j) c5) := (((K1.out.far (p := ⟨w.heap.size, 0, none⟩) (by simp) _).set_ 0 _).far (p := ⟨w.heap.size + 1 + 1, 0, none⟩) (by simp) _).cell 0
    have s2 : (((w5.setCell ⟨w.heap.size, 0, none⟩ (.int .u64 v)).setCell ⟨w.heap.size + 1, 0, none⟩ (.slice (some ⟨g5, 0, none⟩) (d.length - j) c5)).setCell ⟨w.heap.size + 1 + 1, 0, none⟩ (.bool true)).cell? ⟨w.heap.size + 1 + 1, 0, none⟩ = some (.bool true) := (((K2.out.far (p := ⟨w.heap.size, 0, none⟩) (by simp; omega) _).far (p := ⟨w.heap.size + 1, 0, none⟩) (by simp) _).set_ 0 _).cell 0
    have hbf : Below w.heap.size w (((w5.setCell ⟨w.heap.size, 0, none⟩ (.int .u64 v)).setCell ⟨w.heap.size + 1, 0, none⟩ (.slice (some ⟨g5, 0, none⟩) (d.length - j) c5)).setCell ⟨w.heap.size + 1 + 1, 0, none⟩ (.bool true)) := (((HBEL0.out.trans (HB6.out.mono HBEL0.out.size)).setCell (p := ⟨w.heap.size, 0, none⟩) (by simp) _).setCell (p := ⟨w.heap.size + 1, 0, none⟩) (by simp) _).setCell (p := ⟨w.heap.size + 1 + 1, 0, none⟩) (by simp; omega) _
    refine ⟨.tuple #[.int .u64 v, .slice (some ⟨g5, 0, none⟩) (d.length - j) c5, .bool true], by simp [results, Tryd.results10, go_sem, s0, s1, s2], hbf, ?_⟩
    have hz0 := HSZ.out
    have hg5 := HG5.out
    exact ⟨_, _, rfl, ((((HR5.out.far (p := ⟨w.heap.size, 0, none⟩) (by simp; omega) _).far (p := ⟨w.heap.size + 1, 0, none⟩) (by simp; omega) _).far (p := ⟨w.heap.size + 1 + 1, 0, none⟩) (by simp; omega) _).more (by simp))⟩
end Go.Proofs.YtjjhckbidcdkcaaDoor
