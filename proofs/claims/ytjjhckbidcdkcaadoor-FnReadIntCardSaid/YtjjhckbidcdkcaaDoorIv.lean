/- AMQP: readInt32, impl.ReadInt; impl.WriteInt at 5; what is read of what PutValue writes. PRINTED by wip/geniv.py. -/
import Derived.Test.YtjjhckbidcdkcaaDoorIt
import Derived.Test.YtjjhckbidcdkcaaDoorVa
namespace Go.Proofs.YtjjhckbidcdkcaaDoor
open Go.RowKit
set_option linter.unusedVariables false

theorem wrI8 (n : Int) : IntKind.i8.wrap n = (n + 128) % 256 - 128 := by simp [IntKind.wrap, IntKind.bits, IntKind.signed]; omega
theorem wrI32 (n : Int) : IntKind.i32.wrap n = (n + 2147483648) % 4294967296 - 2147483648 := by simp [IntKind.wrap, IntKind.bits, IntKind.signed]; omega
/-- What readInt32 makes of bytes. -/
def creadInt32 (c : Int) (r : List Int) : Option (Int × Nat) := if c = 84 then (numB 1 r).map (fun q => (IntKind.i8.wrap q.1, q.2)) else if c = 113 then (numB 4 r).map (fun q => (wrap32 q.1, q.2)) else none
def preadInt32 : List Int → Option (Int × Nat)
  | [] => none
  | c :: r => creadInt32 c r
set_option maxHeartbeats 1000000 in
theorem readInt32_nil (w : World) (gb : Nat) (h : RdS w gb [] 0) (te : TypeId) (ve : Value) (hE : w.cell? ⟨2, 0, none⟩ = some (.iface te ve)) :
    Calls Tryd.prog 67 #[.pointer (some ⟨gb, 0, none⟩)] w (RPost (fun v => .int .i32 v) none gb [] w) := by
  have H := Lib.hid h
  have HE := Lib.hid hE
  clear h hE
  go_enter Tryd.func67, Tryd.ntmps67
  go_wp2_with (first
      | (go_at_call 69
         go_must (
           (refine (readType_no w gb [] 0 H.out (by simp) te ve HE.out).mono ?_)
           rintro e w1 ⟨rfl, h1, h2⟩
           have HB1 := Lib.hid h2
           clear h1 h2)))
  go_ret2
  exact ⟨⟨_, _, _, rfl⟩, HB1.out⟩
set_option maxHeartbeats 1000000 in
theorem readInt32_84 (w : World) (gb : Nat) (r : List Int) (h : RdS w gb (84 :: r) 0) (hB : IsByt (84 :: r)) (hE : EofS w gb) :
    Calls Tryd.prog 67 #[.pointer (some ⟨gb, 0, none⟩)] w (RPost (fun v => .int .i32 v) ((numB 1 r).map (fun q => (IntKind.i8.wrap q.1, q.2))) gb (84 :: r) w) := by
  have H := Lib.hid h
  have HBY := Lib.hid hB
  have EF := Lib.hid hE
  clear h hB hE
  by_cases hn : 1 ≤ r.length
  · have hv : numB 1 r = some (valB (r.take 1), 2) := by unfold numB; rw [if_pos hn]
    rw [hv]
    have HV : Hid (0 ≤ valB (r.take 1) ∧ valB (r.take 1) < 256) := Lib.hid (valB_range r 1 (fun x hx => HBY.out x (List.mem_cons_of_mem _ hx)) 256 (Nat.le_refl _))
    have HV1 := Lib.hid (valB_one (show 0 < r.length by omega))
    clear hv
    rw [HV1.out] at HV ⊢
    generalize hV : r.getD 0 0 = V at *
    have hv0 : 0 ≤ V := HV.out.1
    have hv1 : V < 256 := HV.out.2
    have hcv : IntKind.i32.wrap (IntKind.i8.wrap V) = IntKind.i8.wrap V := by rw [wrI8, wrI32]; omega
    have HW := Lib.hid hV
    clear hV
    go_enter Tryd.func67, Tryd.ntmps67
    go_wp2_with (first
      | (go_at_call 69
         go_must (
           (refine (readType_yes w gb (84 :: r) 0 H.out (by simp) _ rfl).mono ?_)
           rintro e w1 ⟨rfl, h1, h2⟩
           have H1 := Lib.hid h1
           have HB1 := Lib.hid h2
           clear h1 h2))
      | (go_at_call 70
         go_must (
           (refine (ReadByte_yes w1 gb (84 :: r) 1 H1.out (by simp only [List.length_cons]; omega) V (by rw [← HW.out]; cases r with | nil => simp at hn | cons a r => rfl)).mono ?_)
           rintro e w2 ⟨rfl, h1, h2⟩
           have H2 := Lib.hid h1
           have HB2 := Lib.hid (HB1.out.trans h2)
           clear h1 h2)))
    go_ret2
    exact ⟨rfl, H2.out, HB2.out⟩
  · have hv : numB 1 r = none := by unfold numB; rw [if_neg hn]
    rw [hv]
    go_enter Tryd.func67, Tryd.ntmps67
    go_wp2_with (first
      | (go_at_call 69
         go_must (
           (refine (readType_yes w gb (84 :: r) 0 H.out (by simp) _ rfl).mono ?_)
           rintro e w1 ⟨rfl, h1, h2⟩
           have H1 := Lib.hid h1
           have HB1 := Lib.hid h2
           clear h1 h2))
      | (go_at_call 70
         go_must (
           (have hE1 := EF.out.below HB1.out)
           obtain ⟨-, te1, ve1, hE2⟩ := hE1
           refine (ReadByte_no w1 gb (84 :: r) 1 H1.out (by simp only [List.length_cons]; omega) te1 ve1 hE2).mono ?_
           rintro e w2 ⟨rfl, h1, h2⟩
           have HB2 := Lib.hid (HB1.out.trans h2)
           clear h1 h2 hE2)))
    go_ret2
    exact ⟨⟨_, _, _, rfl⟩, HB2.out⟩
set_option maxHeartbeats 1000000 in
theorem readInt32_113 (w : World) (gb : Nat) (r : List Int) (h : RdS w gb (113 :: r) 0) (hB : IsByt (113 :: r)) (hE : EofS w gb) :
    Calls Tryd.prog 67 #[.pointer (some ⟨gb, 0, none⟩)] w (RPost (fun v => .int .i32 v) ((numB 4 r).map (fun q => (wrap32 q.1, q.2))) gb (113 :: r) w) := by
  have H := Lib.hid h
  have HBY := Lib.hid hB
  have EF := Lib.hid hE
  clear h hB hE
  by_cases hn : 4 ≤ r.length
  · have hv : numB 4 r = some (valB (r.take 4), 5) := by unfold numB; rw [if_pos hn]
    rw [hv]
    have HV : Hid (0 ≤ valB (r.take 4) ∧ valB (r.take 4) < 4294967296) := Lib.hid (valB_range r 4 (fun x hx => HBY.out x (List.mem_cons_of_mem _ hx)) 4294967296 (Nat.le_refl _))
    skip
    clear hv
    obtain ⟨V, hV⟩ : ∃ V, valB (r.take 4) = V := ⟨_, rfl⟩
    rw [hV] at HV ⊢
    have hv0 : 0 ≤ V := HV.out.1
    have hv1 : V < 4294967296 := HV.out.2
    have HW := Lib.hid hV
    clear hV
    go_enter Tryd.func67, Tryd.ntmps67
    go_wp2_with (first
      | (go_at_call 69
         go_must (
           (refine (readType_yes w gb (113 :: r) 0 H.out (by simp) _ rfl).mono ?_)
           rintro e w1 ⟨rfl, h1, h2⟩
           have H1 := Lib.hid h1
           have HB1 := Lib.hid h2
           clear h1 h2))
      | (go_at_call 84
         go_must (
           (refine (ReadUint32_yes w1 gb (113 :: r) 1 H1.out HBY.out (by simp only [List.length_cons]; omega)).mono ?_)
           rintro e w2 ⟨he, h1, h2⟩
           rw [show (((113 :: r)).drop 1).take 4 = r.take 4 from rfl, HW.out] at he
           subst he
           have H2 := Lib.hid h1
           have HB2 := Lib.hid (HB1.out.trans h2)
           clear h1 h2)))
    go_ret2
    exact ⟨rfl, H2.out, HB2.out⟩
  · have hv : numB 4 r = none := by unfold numB; rw [if_neg hn]
    rw [hv]
    go_enter Tryd.func67, Tryd.ntmps67
    go_wp2_with (first
      | (go_at_call 69
         go_must (
           (refine (readType_yes w gb (113 :: r) 0 H.out (by simp) _ rfl).mono ?_)
           rintro e w1 ⟨rfl, h1, h2⟩
           have H1 := Lib.hid h1
           have HB1 := Lib.hid h2
           clear h1 h2))
      | (go_at_call 84
         go_must (
           (have hE1 := EF.out.below HB1.out)
           obtain ⟨-, te1, ve1, hE2⟩ := hE1
           refine (ReadUint32_no w1 gb (113 :: r) 1 H1.out (by simp only [List.length_cons]; omega) te1 ve1 hE2).mono ?_
           rintro e w2 ⟨rfl, h1, h2⟩
           have HB2 := Lib.hid (HB1.out.trans h2)
           clear h1 h2 hE2)))
    go_ret2
    exact ⟨⟨_, _, _, rfl⟩, HB2.out⟩
set_option maxHeartbeats 1000000 in
theorem readInt32_other (w : World) (gb : Nat) (c : Int) (r : List Int) (h : RdS w gb (c :: r) 0) (hc : c ≠ 84 ∧ c ≠ 113) :
    Calls Tryd.prog 67 #[.pointer (some ⟨gb, 0, none⟩)] w (RPost (fun v => .int .i32 v) none gb (c :: r) w) := by
  have H := Lib.hid h
  clear h
  have e84 : (c == 84) = false := by rw [beq_eq_false_iff_ne]; exact hc.1
  have e113 : (c == 113) = false := by rw [beq_eq_false_iff_ne]; exact hc.2
  clear hc
  go_enter Tryd.func67, Tryd.ntmps67
  go_wp2_with (first
      | (go_at_call 69
         go_must (
           (refine (readType_yes w gb (c :: r) 0 H.out (by simp) _ rfl).mono ?_)
           rintro e w1 ⟨rfl, h1, h2⟩
           have H1 := Lib.hid h1
           have HB1 := Lib.hid h2
           clear h1 h2))
      | (go_at_call 72
         go_must (
           (refine (New_err w1 _).mono ?_)
           rintro e w2 ⟨⟨te2, ve2, rfl⟩, h2⟩
           have HB2 := Lib.hid (HB1.out.trans (h2.mono (Nat.le_of_lt H1.out.lt)))
           clear h2)))
  go_ret2
  exact ⟨⟨_, _, _, rfl⟩, HB2.out⟩
theorem readInt32_calls (w : World) (gb : Nat) (d : List Int) (h : RdS w gb d 0) (hB : IsByt d) (hE : EofS w gb) :
    Calls Tryd.prog 67 #[.pointer (some ⟨gb, 0, none⟩)] w (RPost (fun v => .int .i32 v) (preadInt32 d) gb d w) := by
  cases d with
  | nil =>
    obtain ⟨_, te, ve, hE⟩ := hE
    exact readInt32_nil w gb h te ve hE
  | cons c r =>
    show Calls Tryd.prog 67 #[.pointer (some ⟨gb, 0, none⟩)] w (RPost (fun v => .int .i32 v) (creadInt32 c r) gb (c :: r) w)
    unfold creadInt32
    by_cases h84 : c = 84
    · subst h84
      simp only [if_true]
      exact readInt32_84 w gb r h hB hE
    rw [if_neg h84]
    by_cases h113 : c = 113
    · subst h113
      simp only [if_true]
      exact readInt32_113 w gb r h hB hE
    rw [if_neg h113]
    exact readInt32_other w gb c r h ⟨h84, h113⟩
/-- The deferred 'noValue', where nothing has panicked. -/
theorem noValue_ReadInt (p q r : Addr) (w : World) :
    CallsD Tryd.prog 40 #[.pointer (some p), .pointer (some q), .pointer (some r)] .returning w fun e u' w' => e = .returned (.tuple #[]) ∧ u' = .returning ∧ w' = w := by
  refine callsD_of_wpS Tryd.func40 rfl fun c₀ cs hu => ?_
  apply wpS_seq
  apply wpS_region
  simp [wpOpsS, go_sem, recoverD, hu, Tryd.ntmps40, Exit.thenS]
  refine wpS_cond (t := false) (by simp [Act.eval, Array.replicate]) ?_
  simp only [Bool.false_eq_true, if_false]
  refine wpS_of_wp (wp_skip ?_)
  cases c₀
  simp_all [bodyPostS, results, Tryd.results40]
set_option maxHeartbeats 1000000 in
theorem behind_ReadInt_no (w : World) (x r : Value) (t : TypeId) (y : Value) :
    Calls Tryd.prog 42 #[x, r, .iface t y] w fun e w' => e = .returned (.tuple #[.int .i32 0, .slice none 0 0, .bool false]) ∧ w' = w := by
  go_enter Tryd.func42, Tryd.ntmps42
  go_wp2
  go_ret3
  exact ⟨rfl, rfl⟩
set_option maxHeartbeats 1000000 in
theorem behind_ReadInt_yes (w : World) (gb : Nat) (d : List Int) (j : Nat) (x : Value) (h : RdS w gb d j) :
    Calls Tryd.prog 42 #[x, .pointer (some ⟨gb, 0, none⟩), .nilIface] w fun e w' => ∃ g cs, e = .returned (.tuple #[x, .slice (some ⟨g, 0, none⟩) (d.length - j) cs, .bool true]) ∧ Reads w' w'.heap.size 1 (some ⟨g, 0, none⟩) (d.length - j) (bs (d.drop j)) ∧ Below w.heap.size w w' ∧ w.heap.size ≤ g := by
  have hle : d.length ≤ 100000000 := by
    obtain ⟨A, c, _, _, _, _, _, h5, _⟩ := h
    exact h5
  have H := Lib.hid h
  clear h
  go_enter Tryd.func42, Tryd.ntmps42
  go_wp2_with (first
      | (go_at_call 39
         go_must (
           (refine (Bytes_rest w gb d j H.out).mono ?_)
           rintro e w2 ⟨⟨A2, c2, rfl, hr2⟩, n2, rfl⟩
           have HR2 := Lib.hid hr2
           clear hr2))
      | (go_at_call 30
         go_must (
           (have hc := copied_b (w.drewN n2) A2 c2 (d.drop j) (by rw [List.length_drop]; exact HR2.out) (by rw [List.length_drop]; omega))
           rw [List.length_drop] at hc
           refine hc.mono ?_
           rintro e w5 ⟨g5, cs5, rfl, hb5, hcs5, hcm5, ht5, hB5, hbel5⟩
           have hr5 := bs_reads hb5 hcs5 ht5
           rw [List.length_drop] at hr5
           rw [List.length_drop]
           have HR5 := Lib.hid hr5
           have HBE5 := Lib.hid ((below_drewN (Below.refl w.heap.size w) n2).trans hbel5)
           have HG5 := Lib.hid hB5
           clear hc hb5 hcs5 hcm5 ht5 hB5 hbel5 hr5)))
  go_ret3
  exact ⟨g5, cs5.length, rfl, HR5.out, HBE5.out, HG5.out⟩
set_option maxHeartbeats 1000000 in
theorem ReadInt32_door (w : World) (gb : Nat) (d : List Int) (h : RdS w gb d 0) (hB : IsByt d) (hE : EofS w gb) (p : Option (Int × Nat)) (hp : preadInt32 d = p) :
    Calls Tryd.prog 41 #[.pointer (some ⟨gb, 0, none⟩)] w (RPost (fun v => .int .i32 v) p gb d w) := by
  have hcl := readInt32_calls w gb d h hB hE
  rw [hp] at hcl
  have HC := Lib.hid hcl
  clear hcl h hB hE hp
  cases p with
  | none =>
    go_enter Tryd.func41, Tryd.ntmps41
    go_wp2_with (first
      | (go_at_call 67
         go_must (
           (refine HC.out.mono ?_)
           rintro e w1 ⟨⟨x1, t1, y1, rfl⟩, hb1⟩
           have HB1 := Lib.hid hb1
           clear hb1)))
    go_ret2
    exact ⟨⟨_, _, _, rfl⟩, HB1.out⟩
  | some q =>
    obtain ⟨v, j⟩ := q
    go_enter Tryd.func41, Tryd.ntmps41
    go_wp2_with (first
      | (go_at_call 67
         go_must (
           (refine HC.out.mono ?_)
           rintro e w1 ⟨rfl, h1, hb1⟩
           have H1 := Lib.hid h1
           have HB1 := Lib.hid hb1
           clear h1 hb1)))
    go_ret2
    exact ⟨rfl, H1.out, HB1.out⟩
set_option maxHeartbeats 2000000 in
set_option maxRecDepth 100000 in
theorem implReadInt_calls (w : World) (A : Option Addr) (c : Nat) (d : List Int) (hr : Reads w w.heap.size 1 A d.length (bs d)) (hl : d.length ≤ 100000000) (hB : IsByt d) (hE : EofS w w.heap.size) (p : Option (Int × Nat)) (hp : preadInt32 d = p) :
    Calls Tryd.prog 14 #[.slice A d.length c] w (IPost (fun v => .int .i32 v) (.int .i32 0) p d w) := by
  obtain ⟨w0, hw0⟩ : ∃ w0, w0 = (((w.alloc (.cells #[.int .i32 0] 21)).alloc (.cells #[.slice none 0 0] 26)).alloc (.cells #[.bool false] 4)) := ⟨_, rfl⟩
  have hsz : w0.heap.size = w.heap.size + 1 + 1 + 1 := by rw [hw0]; simp
  have hbel0 : Below w.heap.size w w0 := by rw [hw0]; exact (((Below.refl _ w).alloc (Nat.le_refl _) _).alloc (by simp) _).alloc (by simp; omega) _
  have HW0 := Lib.hid hw0
  have HSZ := Lib.hid hsz
  have HBEL0 := Lib.hid hbel0
  have HR := Lib.hid hr
  have HBY := Lib.hid hB
  have HEOF := Lib.hid hE
  have HP := Lib.hid hp
  clear hw0 hsz hbel0 hr hB hE hp
  cases p with
  | none =>
    go_enter_defers Tryd.func14, Tryd.ntmps14
    go_wp2_with (first
      | (go_at_call 30
         go_must (
           (rw [← HW0.out])
           refine (copied_b w0 A c d (HR.out.below HBEL0.out |>.more HBEL0.out.size) (by omega)).mono ?_
           rintro e w2 ⟨g2, cs2, rfl, hb2, hcs2, hcm2, ht2, hB2, hbel2⟩
           have HR2 := Lib.hid (bs_reads hb2 hcs2 ht2)
           have HBE2 := Lib.hid hbel2
           have HC2 := Lib.hid (And.intro hcs2 hcm2)
           clear hb2 hcs2 hcm2 ht2 hB2 hbel2))
      | (go_at_call 29
         go_must (
           (refine (New_calls w2 (some ⟨g2, 0, none⟩) d cs2.length (.inr ⟨g2, rfl⟩) HC2.out.1 HC2.out.2 hl HR2.out).mono ?_)
           rintro e w3 ⟨rfl, h3, hb3⟩
           have hz2 : w0.heap.size ≤ w2.heap.size := HBE2.out.size
           have hbe3 : Below w0.heap.size w0 w3 := HBE2.out.trans (hb3.mono hz2)
           have H3 := Lib.hid h3
           have HE3 : Hid (EofS w3 w2.heap.size) := Lib.hid ⟨Nat.lt_of_lt_of_le HEOF.out.1 (Nat.le_trans HBEL0.out.size hz2), (by obtain ⟨h1, te, ve, h2⟩ := HEOF.out; exact ⟨te, ve, ((HBEL0.out.trans (hbe3.mono HBEL0.out.size)).cell h1).trans h2⟩)⟩
           have HB3 := Lib.hid hbe3
           clear h3 hb3 hbe3))
      | (go_at_call 41
         go_must (
           (refine (ReadInt32_door w3 w2.heap.size d H3.out HBY.out HE3.out _ HP.out).mono ?_)
           rintro e w4 ⟨⟨x4, t4, y4, rfl⟩, hb4⟩
           have HB4 := Lib.hid (HB3.out.trans (hb4.mono hz2))
           skip
           clear hb4 ))
      | (go_at_call 42
         go_must (
           (refine (behind_ReadInt_no w4 _ _ _ _).mono ?_)
           rintro e w5 ⟨rfl, rfl⟩
           have hbel6 : Below w0.heap.size w0 w5 := HB4.out
           have hbel7 := hbel6
           rw [HSZ.out, HW0.out] at hbel7
           obtain ⟨k0, k1, k2⟩ := three_cells (w := w) hbel7
           have r0 := k0.cell 0
           have r1 := k1.cell 0
           have r2 := k2.cell 0
           have f0 := k0.frozen 0
           have f1 := k1.frozen 0
           have f2 := k2.frozen 0
           have z0 := k0.lt
           have z1 := k1.lt
           have z2 := k2.lt
           have K0 := Lib.hid k0
           have K1 := Lib.hid k1
           have K2 := Lib.hid k2
           skip
           skip
           have HB6 := Lib.hid hbel6
           clear k0 k1 k2 hbel6 hbel7 )))
    refine leaves_cons (f := 40) (args := #[.pointer (some ⟨w.heap.size, 0, none⟩), .pointer (some ⟨w.heap.size + 1, 0, none⟩), .pointer (some ⟨w.heap.size + 1 + 1, 0, none⟩)]) (by simp) (by simp [go_sem]) ?_
    refine (noValue_ReadInt _ _ _ _).mono ?_
    rintro e u' w'' ⟨rfl, rfl, rfl⟩
    have s0 : (((w5.setCell ⟨w.heap.size, 0, none⟩ (.int .i32 0)).setCell ⟨w.heap.size + 1, 0, none⟩ (.slice none 0 0)).setCell ⟨w.heap.size + 1 + 1, 0, none⟩ (.bool false)).cell? ⟨w.heap.size, 0, none⟩ = some (.int .i32 0) := (((K0.out.set_ 0 _).far (p := ⟨w.heap.size + 1, 0, none⟩) (by simp) _).far (p := ⟨w.heap.size + 1 + 1, 0, none⟩) (by simp; omega) _).cell 0
    have s1 : (((w5.setCell ⟨w.heap.size, 0, none⟩ (.int .i32 0)).setCell ⟨w.heap.size + 1, 0, none⟩ (.slice none 0 0)).setCell ⟨w.heap.size + 1 + 1, 0, none⟩ (.bool false)).cell? ⟨w.heap.size + 1, 0, none⟩ = some (.slice none 0 0) := (((K1.out.far (p := ⟨w.heap.size, 0, none⟩) (by simp) _).set_ 0 _).far (p := ⟨w.heap.size + 1 + 1, 0, none⟩) (by simp) _).cell 0
    have s2 : (((w5.setCell ⟨w.heap.size, 0, none⟩ (.int .i32 0)).setCell ⟨w.heap.size + 1, 0, none⟩ (.slice none 0 0)).setCell ⟨w.heap.size + 1 + 1, 0, none⟩ (.bool false)).cell? ⟨w.heap.size + 1 + 1, 0, none⟩ = some (.bool false) := (((K2.out.far (p := ⟨w.heap.size, 0, none⟩) (by simp; omega) _).far (p := ⟨w.heap.size + 1, 0, none⟩) (by simp) _).set_ 0 _).cell 0
    have hbf : Below w.heap.size w (((w5.setCell ⟨w.heap.size, 0, none⟩ (.int .i32 0)).setCell ⟨w.heap.size + 1, 0, none⟩ (.slice none 0 0)).setCell ⟨w.heap.size + 1 + 1, 0, none⟩ (.bool false)) := (((HBEL0.out.trans (HB6.out.mono HBEL0.out.size)).setCell (p := ⟨w.heap.size, 0, none⟩) (by simp) _).setCell (p := ⟨w.heap.size + 1, 0, none⟩) (by simp) _).setCell (p := ⟨w.heap.size + 1 + 1, 0, none⟩) (by simp; omega) _
    refine ⟨.tuple #[.int .i32 0, .slice none 0 0, .bool false], by simp [results, Tryd.results14, go_sem, s0, s1, s2], hbf, ?_⟩
    rfl
  | some q =>
    obtain ⟨v, j⟩ := q
    go_enter_defers Tryd.func14, Tryd.ntmps14
    go_wp2_with (first
      | (go_at_call 30
         go_must (
           (rw [← HW0.out])
           refine (copied_b w0 A c d (HR.out.below HBEL0.out |>.more HBEL0.out.size) (by omega)).mono ?_
           rintro e w2 ⟨g2, cs2, rfl, hb2, hcs2, hcm2, ht2, hB2, hbel2⟩
           have HR2 := Lib.hid (bs_reads hb2 hcs2 ht2)
           have HBE2 := Lib.hid hbel2
           have HC2 := Lib.hid (And.intro hcs2 hcm2)
           clear hb2 hcs2 hcm2 ht2 hB2 hbel2))
      | (go_at_call 29
         go_must (
           (refine (New_calls w2 (some ⟨g2, 0, none⟩) d cs2.length (.inr ⟨g2, rfl⟩) HC2.out.1 HC2.out.2 hl HR2.out).mono ?_)
           rintro e w3 ⟨rfl, h3, hb3⟩
           have hz2 : w0.heap.size ≤ w2.heap.size := HBE2.out.size
           have hbe3 : Below w0.heap.size w0 w3 := HBE2.out.trans (hb3.mono hz2)
           have H3 := Lib.hid h3
           have HE3 : Hid (EofS w3 w2.heap.size) := Lib.hid ⟨Nat.lt_of_lt_of_le HEOF.out.1 (Nat.le_trans HBEL0.out.size hz2), (by obtain ⟨h1, te, ve, h2⟩ := HEOF.out; exact ⟨te, ve, ((HBEL0.out.trans (hbe3.mono HBEL0.out.size)).cell h1).trans h2⟩)⟩
           have HB3 := Lib.hid hbe3
           clear h3 hb3 hbe3))
      | (go_at_call 41
         go_must (
           (refine (ReadInt32_door w3 w2.heap.size d H3.out HBY.out HE3.out _ HP.out).mono ?_)
           rintro e w4 ⟨rfl, h4, hb4⟩
           have HB4 := Lib.hid (HB3.out.trans (hb4.mono hz2))
           have H4 := Lib.hid h4
           clear hb4 h4))
      | (go_at_call 42
         go_must (
           (refine (behind_ReadInt_yes w4 w2.heap.size d j _ H4.out).mono ?_)
           rintro e w5 ⟨g5, c5, rfl, hr5, hb5, hg5⟩
           have hbel6 : Below w0.heap.size w0 w5 := HB4.out.trans (hb5.mono HB4.out.size)
           have hbel7 := hbel6
           rw [HSZ.out, HW0.out] at hbel7
           obtain ⟨k0, k1, k2⟩ := three_cells (w := w) hbel7
           have r0 := k0.cell 0
           have r1 := k1.cell 0
           have r2 := k2.cell 0
           have f0 := k0.frozen 0
           have f1 := k1.frozen 0
           have f2 := k2.frozen 0
           have z0 := k0.lt
           have z1 := k1.lt
           have z2 := k2.lt
           have K0 := Lib.hid k0
           have K1 := Lib.hid k1
           have K2 := Lib.hid k2
           have HR5 := Lib.hid hr5
           have HG5 := Lib.hid (Nat.le_trans HB4.out.size hg5)
           have HB6 := Lib.hid hbel6
           clear k0 k1 k2 hbel6 hbel7 hr5 hb5 hg5)))
    refine leaves_cons (f := 40) (args := #[.pointer (some ⟨w.heap.size, 0, none⟩), .pointer (some ⟨w.heap.size + 1, 0, none⟩), .pointer (some ⟨w.heap.size + 1 + 1, 0, none⟩)]) (by simp) (by simp [go_sem]) ?_
    refine (noValue_ReadInt _ _ _ _).mono ?_
    rintro e u' w'' ⟨rfl, rfl, rfl⟩
    have s0 : (((w5.setCell ⟨w.heap.size, 0, none⟩ (.int .i32 v)).setCell ⟨w.heap.size + 1, 0, none⟩ (.slice (some ⟨g5, 0, none⟩) (d.length - j) c5)).setCell ⟨w.heap.size + 1 + 1, 0, none⟩ (.bool true)).cell? ⟨w.heap.size, 0, none⟩ = some (.int .i32 v) := (((K0.out.set_ 0 _).far (p := ⟨w.heap.size + 1, 0, none⟩) (by simp) _).far (p := ⟨w.heap.size + 1 + 1, 0, none⟩) (by simp; omega) _).cell 0
    have s1 : (((w5.setCell ⟨w.heap.size, 0, none⟩ (.int .i32 v)).setCell ⟨w.heap.size + 1, 0, none⟩ (.slice (some ⟨g5, 0, none⟩) (d.length - j) c5)).setCell ⟨w.heap.size + 1 + 1, 0, none⟩ (.bool true)).cell? ⟨w.heap.size + 1, 0, none⟩ = some (.slice (some ⟨g5, 0, none⟩) (d.length - j) c5) := (((K1.out.far (p := ⟨w.heap.size, 0, none⟩) (by simp) _).set_ 0 _).far (p := ⟨w.heap.size + 1 + 1, 0, none⟩) (by simp) _).cell 0
    have s2 : (((w5.setCell ⟨w.heap.size, 0, none⟩ (.int .i32 v)).setCell ⟨w.heap.size + 1, 0, none⟩ (.slice (some ⟨g5, 0, none⟩) (d.length - j) c5)).setCell ⟨w.heap.size + 1 + 1, 0, none⟩ (.bool true)).cell? ⟨w.heap.size + 1 + 1, 0, none⟩ = some (.bool true) := (((K2.out.far (p := ⟨w.heap.size, 0, none⟩) (by simp; omega) _).far (p := ⟨w.heap.size + 1, 0, none⟩) (by simp) _).set_ 0 _).cell 0
    have hbf : Below w.heap.size w (((w5.setCell ⟨w.heap.size, 0, none⟩ (.int .i32 v)).setCell ⟨w.heap.size + 1, 0, none⟩ (.slice (some ⟨g5, 0, none⟩) (d.length - j) c5)).setCell ⟨w.heap.size + 1 + 1, 0, none⟩ (.bool true)) := (((HBEL0.out.trans (HB6.out.mono HBEL0.out.size)).setCell (p := ⟨w.heap.size, 0, none⟩) (by simp) _).setCell (p := ⟨w.heap.size + 1, 0, none⟩) (by simp) _).setCell (p := ⟨w.heap.size + 1 + 1, 0, none⟩) (by simp; omega) _
    refine ⟨.tuple #[.int .i32 v, .slice (some ⟨g5, 0, none⟩) (d.length - j) c5, .bool true], by simp [results, Tryd.results14, go_sem, s0, s1, s2], hbf, ?_⟩
    have hz0 := HSZ.out
    have hg5 := HG5.out
    exact ⟨_, _, rfl, ((((HR5.out.far (p := ⟨w.heap.size, 0, none⟩) (by simp; omega) _).far (p := ⟨w.heap.size + 1, 0, none⟩) (by simp; omega) _).far (p := ⟨w.heap.size + 1 + 1, 0, none⟩) (by simp; omega) _).more (by simp))⟩
set_option maxHeartbeats 1000000 in
theorem writeInt32_five (w0 w : World) (B gb : Nat) (hb : Bw w0 w B gb []) :
    Calls Tryd.prog 66 #[.pointer (some ⟨gb, 0, none⟩), .int .i32 5] w fun e w' => e = .returned (.tuple #[]) ∧ Bw w0 w' B gb [84, 5] := by
  have HB := Lib.hid hb
  have hgb := hb.lt
  clear hb
  go_enter Tryd.func66, Tryd.ntmps66
  go_wp2_with (first
      | (go_at_call 91
         go_must (
           (refine (Append_calls w0 _ B gb (some ⟨w.heap.size, 0, none⟩) 2 [] [84, 5] ((reads_list w 5 [84, 5]).more (by simp)) (HB.out.alloc _) (by decide)).mono ?_)
           rintro e w1 ⟨rfl, hb1, -⟩
           have HB1 := Lib.hid hb1
           clear hb1)))
  (try simp only [Exit.inBlock, Exit.then])
  refine bodyPost_ret (results_none rfl _ _ _) rfl ?_
  exact ⟨rfl, HB1.out⟩
set_option maxHeartbeats 1000000 in
theorem WriteInt32_five (w0 w : World) (B gb : Nat) (hb : Bw w0 w B gb []) :
    Calls Tryd.prog 38 #[.pointer (some ⟨gb, 0, none⟩), .int .i32 5] w fun e w' => e = .returned (.tuple #[]) ∧ Bw w0 w' B gb [84, 5] := by
  have HB := Lib.hid hb
  clear hb
  go_enter Tryd.func38, Tryd.ntmps38
  go_wp2_with (first
      | (go_at_call 66
         go_must (
           (refine (writeInt32_five w0 w B gb HB.out).mono ?_)
           rintro e w1 ⟨rfl, hb1⟩
           have HB1 := Lib.hid hb1
           clear hb1)))
  go_end0
  exact ⟨rfl, HB1.out⟩
/-- The two cells of the results. -/
theorem two_cells_WriteInt {w W' : World} {t1 t2 : TypeId} {a b : Value} (hb : Below (w.heap.size + 1 + 1) ((w.alloc (.cells #[a] t1)).alloc (.cells #[b] t2)) W') :
    Blk W' w.heap.size t1 [a] ∧ Blk W' (w.heap.size + 1) t2 [b] := by
  refine ⟨((Blk.new w t1 [a]).alloc _).below hb (by omega), ?_⟩
  have := Blk.new (w.alloc (.cells #[a] t1)) t2 [b]
  rw [show (w.alloc (.cells #[a] t1)).heap.size = w.heap.size + 1 by simp] at this
  exact this.below hb (by omega)
set_option maxHeartbeats 1000000 in
set_option maxRecDepth 100000 in
theorem implWriteInt_sample (w : World) :
    Calls Tryd.prog 13 #[.int .i32 5] w fun e w' => ∃ g c, e = .returned (.tuple #[.slice (some ⟨g, 0, none⟩) 2 c, .bool true]) ∧ Reads w' w'.heap.size 1 (some ⟨g, 0, none⟩) 2 (bs [84, 5]) ∧ Below w.heap.size w w' := by
  obtain ⟨w0, hw0⟩ : ∃ w0, w0 = ((w.alloc (.cells #[.slice none 0 0] 26)).alloc (.cells #[.bool false] 4)) := ⟨_, rfl⟩
  have hsz : w0.heap.size = w.heap.size + 1 + 1 := by rw [hw0]; simp
  have hbel0 : Below w.heap.size w w0 := by rw [hw0]; exact ((Below.refl _ w).alloc (Nat.le_refl _) _).alloc (by simp) _
  have HW0 := Lib.hid hw0
  have HSZ := Lib.hid hsz
  have HBEL0 := Lib.hid hbel0
  have hbn := bw_new w0
  rw [hw0] at hbn
  rw [← hw0, hsz] at hbn
  have HBN := Lib.hid hbn
  obtain ⟨L, hL⟩ : ∃ L : List Int, L = [84, 5] := ⟨_, rfl⟩
  have hLl : L.length = 2 := by rw [hL]; rfl
  have HL := Lib.hid hL
  have HLL := Lib.hid hLl
  clear hw0 hsz hbel0 hbn hL hLl
  go_enter_defers Tryd.func13, Tryd.ntmps13
  go_wp2_with (first
    | (go_at_call 38
       go_must (
         (rw [← HW0.out])
         (refine (WriteInt32_five w0 _ (w.heap.size + 1 + 1) (w.heap.size + 1 + 1) HBN.out).mono ?_)
         rintro e w3 ⟨rfl, hb3⟩
         rw [← HL.out] at hb3
         have HB3 := Lib.hid hb3
         clear hb3))
    | (go_at_call 39
       go_must (
         (refine (Bytes_all w0 w3 _ _ L HB3.out (by rw [HLL.out]; omega)).mono ?_)
         rintro e w4 ⟨⟨g4, c4, rfl, hr4⟩, n4, rfl⟩
         have HR4 := Lib.hid hr4
         clear hr4))
    | (go_at_call 30
       go_must (
         (refine (copied_b (w3.drewN n4) (some ⟨g4, 0, none⟩) c4 L HR4.out (by rw [HLL.out]; omega)).mono ?_)
         rintro e w5 ⟨g5, cs5, rfl, hb5, hcs5, hcm5, ht5, hB5, hbel5⟩
         have hr5 := bs_reads hb5 hcs5 ht5
         have hbel6 := HB3.out.below.trans ((below_drewN (Below.refl _ w3) n4).trans hbel5 |>.mono (Nat.le_of_lt HB3.out.lt))
         have hbel7 := hbel6
         rw [HW0.out] at hbel7
         obtain ⟨k0, k1⟩ := two_cells_WriteInt (w := w) hbel7
         have r0 := k0.cell 0
         have r1 := k1.cell 0
         have f0 := k0.frozen 0
         have f1 := k1.frozen 0
         have z0 := k0.lt
         have z1 := k1.lt
         have hg5 : w.heap.size + 1 + 1 < g5 := Nat.lt_of_lt_of_le HB3.out.lt hB5
         have K0 := Lib.hid k0
         have K1 := Lib.hid k1
         have HR5 := Lib.hid hr5
         have HBEL6 := Lib.hid hbel6
         clear k0 k1 hb5 ht5 hbel5 hbel6 hbel7 hB5 hcs5 hr5)))
  refine leaves_cons (f := 37) (args := #[.pointer (some ⟨w.heap.size, 0, none⟩), .pointer (some ⟨w.heap.size + 1, 0, none⟩)]) (by simp) (by simp [go_sem]) ?_
  refine (noData_idle _ _ _).mono ?_
  rintro e u' w'' ⟨rfl, rfl, rfl⟩
  have s0 : ((w5.setCell ⟨w.heap.size, 0, none⟩ (.slice (some ⟨g5, 0, none⟩) L.length cs5.length)).setCell ⟨w.heap.size + 1, 0, none⟩ (.bool true)).cell? ⟨w.heap.size, 0, none⟩ = some (.slice (some ⟨g5, 0, none⟩) L.length cs5.length) := ((K0.out.set_ 0 _).far (p := ⟨w.heap.size + 1, 0, none⟩) (by simp) _).cell 0
  have s1 : ((w5.setCell ⟨w.heap.size, 0, none⟩ (.slice (some ⟨g5, 0, none⟩) L.length cs5.length)).setCell ⟨w.heap.size + 1, 0, none⟩ (.bool true)).cell? ⟨w.heap.size + 1, 0, none⟩ = some (.bool true) := ((K1.out.far (p := ⟨w.heap.size, 0, none⟩) (by simp) _).set_ 0 _).cell 0
  have hbf : Below w.heap.size w ((w5.setCell ⟨w.heap.size, 0, none⟩ (.slice (some ⟨g5, 0, none⟩) L.length cs5.length)).setCell ⟨w.heap.size + 1, 0, none⟩ (.bool true)) := ((HBEL0.out.trans (HBEL6.out.mono (by omega))).setCell (p := ⟨w.heap.size, 0, none⟩) (by simp) _).setCell (p := ⟨w.heap.size + 1, 0, none⟩) (by simp) _
  refine ⟨.tuple #[.slice (some ⟨g5, 0, none⟩) L.length cs5.length, .bool true], by simp [results, Tryd.results13, go_sem, s0, s1], g5, cs5.length, by rw [HLL.out], ?_, hbf⟩
  have hr : Reads ((w5.setCell ⟨w.heap.size, 0, none⟩ (.slice (some ⟨g5, 0, none⟩) L.length cs5.length)).setCell ⟨w.heap.size + 1, 0, none⟩ (.bool true)) ((w5.setCell ⟨w.heap.size, 0, none⟩ (.slice (some ⟨g5, 0, none⟩) L.length cs5.length)).setCell ⟨w.heap.size + 1, 0, none⟩ (.bool true)).heap.size 1 (some ⟨g5, 0, none⟩) L.length (bs L) := ((HR5.out.far (p := ⟨w.heap.size, 0, none⟩) (by simp; omega) (.slice (some ⟨g5, 0, none⟩) L.length cs5.length)).far (p := ⟨w.heap.size + 1, 0, none⟩) (by simp; omega) (.bool true)).more (by simp)
  rw [HLL.out, HL.out] at hr
  rw [HLL.out]
  exact hr
theorem numB_beM (u : Int) (n : Nat) (bl : List Int) : numB n (be u n ++ bl) = some (u % 256 ^ n, n + 1) := by
  unfold numB
  rw [if_pos (by rw [List.length_append, be_length]; omega), take_be, valB_be]
theorem pI_five : preadInt32 [84, 5] = some (5, 2) := by decide
theorem numL_mem8 {u c : Int} {d : List Int} (h : (c, d) ∈ numL 8 u) : (-128 ≤ wrap64 u ∧ wrap64 u < 128 ∧ c = 84 ∧ d = be u 1) ∨ (c = 113 ∧ d = be u 4) := by
  have h : (c, d) ∈ (if IntKind.i64.wrap u ≥ -128 ∧ IntKind.i64.wrap u < 128 then [((84 : Int), be u 1)] else []) ++ [(113, be u 4)] := h
  rw [wrapQ] at h
  rw [List.mem_append] at h
  rcases h with h | h
  · split at h
    · rename_i hu
      rw [List.mem_singleton] at h
      injection h with h1 h2
      exact .inl ⟨hu.1, hu.2, h1, h2⟩
    · cases h
  · rw [List.mem_singleton] at h
    injection h with h1 h2
    exact .inr ⟨h1, h2⟩
theorem int_forms {T : VT} {L : List Pce} {c : Int} {d : List Int} (hF : FitsV T) (hG : PcsG T L) (hm : (c, d) ∈ L) (hk : T.k = 8) :
    (-128 ≤ wrap64 T.u ∧ wrap64 T.u < 128 ∧ c = 84 ∧ d = be T.u 1) ∨ (c = 113 ∧ d = be T.u 4) := by
  obtain ⟨_, _, _, hX, _⟩ := hG
  have hL := hX.1 (by omega) (by omega) (by omega)
  rw [hL, hk] at hm
  exact numL_mem8 hm
theorem codes_int {k c : Int} (h0 : 0 ≤ k) (h1 : k < 24) (hk : k ≠ 8) (hc : c ∈ codesK k) : c ≠ 84 ∧ c ≠ 113 := by
  have key : ∀ l : List Int, c ∈ l → (l.all fun x => decide (x ≠ 84 ∧ x ≠ 113)) = true → c ≠ 84 ∧ c ≠ 113 := fun l hl ha => of_decide_eq_true (List.all_eq_true.1 ha c hl)
  rcases (show k = 0 ∨ k = 1 ∨ k = 2 ∨ k = 3 ∨ k = 4 ∨ k = 5 ∨ k = 6 ∨ k = 7 ∨ k = 9 ∨ k = 10 ∨ k = 11 ∨ k = 12 ∨ k = 13 ∨ k = 14 ∨ k = 15 ∨ k = 16 ∨ k = 17 ∨ k = 18 ∨ k = 19 ∨ k = 20 ∨ k = 21 ∨ k = 22 ∨ k = 23 by omega) with rfl | rfl | rfl | rfl | rfl | rfl | rfl | rfl | rfl | rfl | rfl | rfl | rfl | rfl | rfl | rfl | rfl | rfl | rfl | rfl | rfl | rfl | rfl <;> exact key _ hc (by decide)
theorem creadInt32_none {c : Int} (r : List Int) (h : c ≠ 84 ∧ c ≠ 113) : creadInt32 c r = none := by
  unfold creadInt32
  rw [if_neg h.1, if_neg h.2]
theorem pI_whole {T : VT} {enc : List Int} (bl : List Int) (hF : FitsV T) (hd : T.n true = 0) (hf : FPV T enc) (hu0 : 0 ≤ T.u) (hu1 : T.u ≤ 18446744073709551615) (hk : T.k = 8) : preadInt32 (enc ++ bl) = some (wrap64 T.u, enc.length) := by
  obtain ⟨L, c, d, hG, hm, rfl⟩ := fpv_pce hf hd
  show creadInt32 c (d ++ bl) = _
  obtain ⟨_, _, _, _, _, f8, _⟩ := fitsV_cft hF
  have hr := f8 hk
  rcases int_forms hF hG hm hk with ⟨h1, h2, rfl, rfl⟩ | ⟨rfl, rfl⟩
  · show (numB 1 (be T.u 1 ++ bl)).map (fun q => (IntKind.i8.wrap q.1, q.2)) = _
    rw [numB_beM, List.length_cons, be_length]
    show some (IntKind.i8.wrap (T.u % 256 ^ 1), 1 + 1) = some (wrap64 T.u, 1 + 1)
    have : IntKind.i8.wrap (T.u % 256 ^ 1) = wrap64 T.u := by
      rw [wrI8]
      unfold wrap64 at *
      omega
    rw [this]
  · show (numB 4 (be T.u 4 ++ bl)).map (fun q => (wrap32 q.1, q.2)) = _
    rw [numB_beM, List.length_cons, be_length]
    show some (wrap32 (T.u % 256 ^ 4), 4 + 1) = some (wrap64 T.u, 4 + 1)
    have : wrap32 (T.u % 256 ^ 4) = wrap64 T.u := by
      rw [show (256 : Int) ^ 4 = 4294967296 by decide]
      unfold wrap64 wrap32
      omega
    rw [this]
theorem pI_other {T : VT} {enc : List Int} (bl : List Int) (hF : FitsV T) (hd : T.n true = 0) (hf : FPV T enc) (hk : T.k ≠ 8) : preadInt32 (enc ++ bl) = none := by
  obtain ⟨L, c, d, hG, hm, rfl⟩ := fpv_pce hf hd
  obtain ⟨h0, h1, _⟩ := fitsV_fld hF
  exact creadInt32_none _ (codes_int h0 h1 hk (hG.2.2.1 _ hm).1)
theorem pI_cut {T : VT} {enc : List Int} (m : Nat) (hF : FitsV T) (hd : T.n true = 0) (hf : FPV T enc) (hm : m < enc.length) : preadInt32 (enc.take m) = none := by
  obtain ⟨L, c, d, hG, hmem, rfl⟩ := fpv_pce hf hd
  obtain ⟨h0, h1, _⟩ := fitsV_fld hF
  cases m with
  | zero => rfl
  | succ m =>
    rw [List.take_succ_cons]
    show creadInt32 c (d.take m) = none
    rw [List.length_cons] at hm
    by_cases hk : T.k = 8
    · rcases int_forms hF hG hmem hk with ⟨_, _, rfl, rfl⟩ | ⟨rfl, rfl⟩
      · rw [be_length] at hm
        show (numB 1 ((be T.u 1).take m)).map (fun q => (IntKind.i8.wrap q.1, q.2)) = none
        rw [numB_cut T.u 1 m (by omega)]
        rfl
      · rw [be_length] at hm
        show (numB 4 ((be T.u 4).take m)).map (fun q => (wrap32 q.1, q.2)) = none
        rw [numB_cut T.u 4 m (by omega)]
        rfl
    · exact creadInt32_none _ (codes_int h0 h1 hk (hG.2.2.1 _ hmem).1)
end Go.Proofs.YtjjhckbidcdkcaaDoor
