/- AMQP: impl.ReadString; impl.WriteString at "a"; what is read of what PutValue writes. PRINTED by wip/genizs.py. -/
import Derived.Test.YtjjhckbidcdkcaaDoorIy
import Derived.Test.YtjjhckbidcdkcaaDoorVa
namespace Go.Proofs.YtjjhckbidcdkcaaDoor
open Go.RowKit Go.Shelf
set_option linter.unusedVariables false

theorem ReadString_calls (w : World) (gb : Nat) (d : List Int) (h : RdS w gb d 0) (hB : IsByt d) (hE : EofS w gb) (p : Option (List Int × Nat)) (hp : pStr d = p) :
    Calls Tryd.prog 45 #[.pointer (some ⟨gb, 0, none⟩)] w (RPostL (fun l => .string (strOfNums l)) p gb d w) := by
  subst hp
  cases d with
  | nil =>
    obtain ⟨_, te, ve, hE⟩ := hE
    exact ReadString_nil w gb h te ve hE
  | cons c r =>
    show Calls Tryd.prog 45 #[.pointer (some ⟨gb, 0, none⟩)] w (RPostL (fun l => .string (strOfNums l)) (cStr c r) gb (c :: r) w)
    have h1 : ∀ (cc : Int), c = cc → (cc = 161 ∨ cc = 163) → Calls Tryd.prog 45 #[.pointer (some ⟨gb, 0, none⟩)] w (RPostL (fun l => .string (strOfNums l)) (txtB 1 r) gb (c :: r) w) := by
      intro cc hc hcc
      subst hc
      cases r with
      | nil =>
        have e : txtB 1 ([] : List Int) = none := rfl
        rw [e]
        rcases hcc with rfl | rfl
        · exact ReadString_161_e w gb h hE
        · exact ReadString_163_e w gb h hE
      | cons n r =>
        have hn := hB n (List.mem_cons_of_mem _ (List.mem_cons_self ..))
        have hv : valB ((n :: r).take 1) = n := by simp [valB]
        by_cases hl : n.toNat ≤ r.length
        · have e : txtB 1 (n :: r) = some (r.take n.toNat, 2 + n.toNat) := by
            unfold txtB
            simp only [hv, List.length_cons]
            rw [if_pos (by omega), if_pos (by omega)]
            rfl
          rw [e]
          rcases hcc with rfl | rfl
          · exact ReadString_161_y w gb n r h hn.1 hn.2 hl
          · exact ReadString_163_y w gb n r h hn.1 hn.2 hl
        · have e : txtB 1 (n :: r) = none := by
            unfold txtB
            simp only [hv, List.length_cons]
            rw [if_pos (by omega), if_neg (by omega)]
          rw [e]
          rcases hcc with rfl | rfl
          · exact ReadString_161_n w gb n r h hn.1 hn.2 hl
          · exact ReadString_163_n w gb n r h hn.1 hn.2 hl
    have h4 : ∀ (cc : Int), c = cc → (cc = 177 ∨ cc = 179) → Calls Tryd.prog 45 #[.pointer (some ⟨gb, 0, none⟩)] w (RPostL (fun l => .string (strOfNums l)) (txtB 4 r) gb (c :: r) w) := by
      intro cc hc hcc
      subst hc
      by_cases hr : 4 ≤ r.length
      · match r, hr with
        | b0 :: b1 :: b2 :: b3 :: r, _ =>
          have g0 := hB b0 (by simp)
          have g1 := hB b1 (by simp)
          have g2 := hB b2 (by simp)
          have g3 := hB b3 (by simp)
          have hv : valB ((b0 :: b1 :: b2 :: b3 :: r).take 4) = b0 * 16777216 + (b1 * 65536 + (b2 * 256 + b3)) := by
            simp [valB]
            omega
          have hb : 0 ≤ b0 ∧ 0 ≤ b1 ∧ 0 ≤ b2 ∧ 0 ≤ b3 ∧ b0 ≤ 255 ∧ b1 ≤ 255 ∧ b2 ≤ 255 ∧ b3 ≤ 255 := ⟨g0.1, g1.1, g2.1, g3.1, g0.2, g1.2, g2.2, g3.2⟩
          by_cases hl : (b0 * 16777216 + (b1 * 65536 + (b2 * 256 + b3))).toNat ≤ r.length
          · have e : txtB 4 (b0 :: b1 :: b2 :: b3 :: r) = some (r.take (b0 * 16777216 + (b1 * 65536 + (b2 * 256 + b3))).toNat, 5 + (b0 * 16777216 + (b1 * 65536 + (b2 * 256 + b3))).toNat) := by
              unfold txtB
              simp only [hv, List.length_cons]
              rw [if_pos (by omega), if_pos (by omega)]
              rfl
            rw [e]
            rcases hcc with rfl | rfl
            · exact ReadString_177_y w gb b0 b1 b2 b3 r h hb hl
            · exact ReadString_179_y w gb b0 b1 b2 b3 r h hb hl
          · have e : txtB 4 (b0 :: b1 :: b2 :: b3 :: r) = none := by
              unfold txtB
              simp only [hv, List.length_cons]
              rw [if_pos (by omega), if_neg (by omega)]
            rw [e]
            rcases hcc with rfl | rfl
            · exact ReadString_177_n w gb b0 b1 b2 b3 r h hb hl
            · exact ReadString_179_n w gb b0 b1 b2 b3 r h hb hl
      · have e : txtB 4 r = none := by
          unfold txtB
          rw [if_neg hr]
        rw [e]
        rcases hcc with rfl | rfl
        · exact ReadString_177_e w gb r h hr
        · exact ReadString_179_e w gb r h hr
    unfold cStr
    by_cases e1 : c = 161
    · rw [if_pos e1]; exact h1 161 e1 (.inl rfl)
    rw [if_neg e1]
    by_cases e2 : c = 163
    · rw [if_pos e2]; exact h1 163 e2 (.inr rfl)
    rw [if_neg e2]
    by_cases e3 : c = 177
    · rw [if_pos e3]; exact h4 177 e3 (.inl rfl)
    rw [if_neg e3]
    by_cases e4 : c = 179
    · rw [if_pos e4]; exact h4 179 e4 (.inr rfl)
    rw [if_neg e4]
    exact ReadString_other w gb c r h ⟨e1, e2, e3, e4⟩
/-- The deferred 'noValue', where nothing has panicked. -/
theorem noValue_ReadString (p q r : Addr) (w : World) :
    CallsD Tryd.prog 44 #[.pointer (some p), .pointer (some q), .pointer (some r)] .returning w fun e u' w' => e = .returned (.tuple #[]) ∧ u' = .returning ∧ w' = w := by
  refine callsD_of_wpS Tryd.func44 rfl fun c₀ cs hu => ?_
  apply wpS_seq
  apply wpS_region
  simp [wpOpsS, go_sem, recoverD, hu, Tryd.ntmps44, Exit.thenS]
  refine wpS_cond (t := false) (by simp [Act.eval, Array.replicate]) ?_
  simp only [Bool.false_eq_true, if_false]
  refine wpS_of_wp (wp_skip ?_)
  cases c₀
  simp_all [bodyPostS, results, Tryd.results44]
set_option maxHeartbeats 1000000 in
theorem behind_ReadString_no (w : World) (x r : Value) (t : TypeId) (y : Value) :
    Calls Tryd.prog 46 #[x, r, .iface t y] w fun e w' => e = .returned (.tuple #[.string ⟨#[]⟩, .slice none 0 0, .bool false]) ∧ w' = w := by
  go_enter Tryd.func46, Tryd.ntmps46
  go_wp2
  go_ret3
  exact ⟨rfl, rfl⟩
set_option maxHeartbeats 1000000 in
theorem behind_ReadString_yes (w : World) (gb : Nat) (d : List Int) (j : Nat) (x : Value) (h : RdS w gb d j) :
    Calls Tryd.prog 46 #[x, .pointer (some ⟨gb, 0, none⟩), .nilIface] w fun e w' => ∃ g cs, e = .returned (.tuple #[x, .slice (some ⟨g, 0, none⟩) (d.length - j) cs, .bool true]) ∧ Reads w' w'.heap.size 1 (some ⟨g, 0, none⟩) (d.length - j) (bs (d.drop j)) ∧ Below w.heap.size w w' ∧ w.heap.size ≤ g := by
  have hle : d.length ≤ 100000000 := by
    obtain ⟨A, c, _, _, _, _, _, h5, _⟩ := h
    exact h5
  have H := Lib.hid h
  clear h
  go_enter Tryd.func46, Tryd.ntmps46
  go_wp2_with (first
      | (go_at_call 39
         go_must (
           (refine (Bytes_rest w gb d j H.out).mono ?_)
           rintro e w2 ⟨⟨A2, c2, rfl, hr2⟩, n2, rfl⟩
           have HR2 := Lib.hid hr2
           clear hr2))
      | (go_at_call 30
         go_must (
           (have hc := copied_b (w.drewN n2) A2 c2 (d.drop j) (by rw [List.length_drop]; exact HR2.out) (by rw [List.length_drop]; omega))
           rw [List.length_drop] at hc
           refine hc.mono ?_
           rintro e w5 ⟨g5, cs5, rfl, hb5, hcs5, hcm5, ht5, hB5, hbel5⟩
           have hr5 := bs_reads hb5 hcs5 ht5
           rw [List.length_drop] at hr5
           rw [List.length_drop]
           have HR5 := Lib.hid hr5
           have HBE5 := Lib.hid ((below_drewN (Below.refl w.heap.size w) n2).trans hbel5)
           have HG5 := Lib.hid hB5
           clear hc hb5 hcs5 hcm5 ht5 hB5 hbel5 hr5)))
  go_ret3
  exact ⟨g5, cs5.length, rfl, HR5.out, HBE5.out, HG5.out⟩
set_option maxHeartbeats 2000000 in
set_option maxRecDepth 100000 in
theorem implReadString_calls (w : World) (A : Option Addr) (c : Nat) (d : List Int) (hr : Reads w w.heap.size 1 A d.length (bs d)) (hl : d.length ≤ 100000000) (hB : IsByt d) (hE : EofS w w.heap.size) (p : Option (List Int × Nat)) (hp : pStr d = p) :
    Calls Tryd.prog 17 #[.slice A d.length c] w (IPostL (fun l => .string (strOfNums l)) (.string ⟨#[]⟩) p d w) := by
  obtain ⟨w0, hw0⟩ : ∃ w0, w0 = (((w.alloc (.cells #[.string ⟨#[]⟩] 9)).alloc (.cells #[.slice none 0 0] 26)).alloc (.cells #[.bool false] 4)) := ⟨_, rfl⟩
  have hsz : w0.heap.size = w.heap.size + 1 + 1 + 1 := by rw [hw0]; simp
  have hbel0 : Below w.heap.size w w0 := by rw [hw0]; exact (((Below.refl _ w).alloc (Nat.le_refl _) _).alloc (by simp) _).alloc (by simp; omega) _
  have HW0 := Lib.hid hw0
  have HSZ := Lib.hid hsz
  have HBEL0 := Lib.hid hbel0
  have HR := Lib.hid hr
  have HBY := Lib.hid hB
  have HEOF := Lib.hid hE
  have HP := Lib.hid hp
  clear hw0 hsz hbel0 hr hB hE hp
  cases p with
  | none =>
    go_enter_defers Tryd.func17, Tryd.ntmps17
    go_wp2_with (first
      | (go_at_call 30
         go_must (
           (rw [← HW0.out])
           refine (copied_b w0 A c d (HR.out.below HBEL0.out |>.more HBEL0.out.size) (by omega)).mono ?_
           rintro e w2 ⟨g2, cs2, rfl, hb2, hcs2, hcm2, ht2, hB2, hbel2⟩
           have HR2 := Lib.hid (bs_reads hb2 hcs2 ht2)
           have HBE2 := Lib.hid hbel2
           have HC2 := Lib.hid (And.intro hcs2 hcm2)
           clear hb2 hcs2 hcm2 ht2 hB2 hbel2))
      | (go_at_call 29
         go_must (
           (refine (New_calls w2 (some ⟨g2, 0, none⟩) d cs2.length (.inr ⟨g2, rfl⟩) HC2.out.1 HC2.out.2 hl HR2.out).mono ?_)
           rintro e w3 ⟨rfl, h3, hb3⟩
           have hz2 : w0.heap.size ≤ w2.heap.size := HBE2.out.size
           have hbe3 : Below w0.heap.size w0 w3 := HBE2.out.trans (hb3.mono hz2)
           have H3 := Lib.hid h3
           have HE3 : Hid (EofS w3 w2.heap.size) := Lib.hid ⟨Nat.lt_of_lt_of_le HEOF.out.1 (Nat.le_trans HBEL0.out.size hz2), (by obtain ⟨h1, te, ve, h2⟩ := HEOF.out; exact ⟨te, ve, ((HBEL0.out.trans (hbe3.mono HBEL0.out.size)).cell h1).trans h2⟩)⟩
           have HB3 := Lib.hid hbe3
           clear h3 hb3 hbe3))
      | (go_at_call 45
         go_must (
           (refine (ReadString_calls w3 w2.heap.size d H3.out HBY.out HE3.out _ HP.out).mono ?_)
           rintro e w4 ⟨⟨x4, t4, y4, rfl⟩, hb4⟩
           have HB4 := Lib.hid (HB3.out.trans (hb4.mono hz2))
           skip
           clear hb4 ))
      | (go_at_call 46
         go_must (
           (refine (behind_ReadString_no w4 _ _ _ _).mono ?_)
           rintro e w5 ⟨rfl, rfl⟩
           have hbel6 : Below w0.heap.size w0 w5 := HB4.out
           have hbel7 := hbel6
           rw [HSZ.out, HW0.out] at hbel7
           obtain ⟨k0, k1, k2⟩ := three_cells (w := w) hbel7
           have r0 := k0.cell 0
           have r1 := k1.cell 0
           have r2 := k2.cell 0
           have f0 := k0.frozen 0
           have f1 := k1.frozen 0
           have f2 := k2.frozen 0
           have z0 := k0.lt
           have z1 := k1.lt
           have z2 := k2.lt
           have K0 := Lib.hid k0
           have K1 := Lib.hid k1
           have K2 := Lib.hid k2
           skip
           skip
           have HB6 := Lib.hid hbel6
           clear k0 k1 k2 hbel6 hbel7 )))
    refine leaves_cons (f := 44) (args := #[.pointer (some ⟨w.heap.size, 0, none⟩), .pointer (some ⟨w.heap.size + 1, 0, none⟩), .pointer (some ⟨w.heap.size + 1 + 1, 0, none⟩)]) (by simp) (by simp [go_sem]) ?_
    refine (noValue_ReadString _ _ _ _).mono ?_
    rintro e u' w'' ⟨rfl, rfl, rfl⟩
    have s0 : (((w5.setCell ⟨w.heap.size, 0, none⟩ (.string ⟨#[]⟩)).setCell ⟨w.heap.size + 1, 0, none⟩ (.slice none 0 0)).setCell ⟨w.heap.size + 1 + 1, 0, none⟩ (.bool false)).cell? ⟨w.heap.size, 0, none⟩ = some (.string ⟨#[]⟩) := (((K0.out.set_ 0 _).far (p := ⟨w.heap.size + 1, 0, none⟩) (by simp) _).far (p := ⟨w.heap.size + 1 + 1, 0, none⟩) (by simp; omega) _).cell 0
    have s1 : (((w5.setCell ⟨w.heap.size, 0, none⟩ (.string ⟨#[]⟩)).setCell ⟨w.heap.size + 1, 0, none⟩ (.slice none 0 0)).setCell ⟨w.heap.size + 1 + 1, 0, none⟩ (.bool false)).cell? ⟨w.heap.size + 1, 0, none⟩ = some (.slice none 0 0) := (((K1.out.far (p := ⟨w.heap.size, 0, none⟩) (by simp) _).set_ 0 _).far (p := ⟨w.heap.size + 1 + 1, 0, none⟩) (by simp) _).cell 0
    have s2 : (((w5.setCell ⟨w.heap.size, 0, none⟩ (.string ⟨#[]⟩)).setCell ⟨w.heap.size + 1, 0, none⟩ (.slice none 0 0)).setCell ⟨w.heap.size + 1 + 1, 0, none⟩ (.bool false)).cell? ⟨w.heap.size + 1 + 1, 0, none⟩ = some (.bool false) := (((K2.out.far (p := ⟨w.heap.size, 0, none⟩) (by simp; omega) _).far (p := ⟨w.heap.size + 1, 0, none⟩) (by simp) _).set_ 0 _).cell 0
    have hbf : Below w.heap.size w (((w5.setCell ⟨w.heap.size, 0, none⟩ (.string ⟨#[]⟩)).setCell ⟨w.heap.size + 1, 0, none⟩ (.slice none 0 0)).setCell ⟨w.heap.size + 1 + 1, 0, none⟩ (.bool false)) := (((HBEL0.out.trans (HB6.out.mono HBEL0.out.size)).setCell (p := ⟨w.heap.size, 0, none⟩) (by simp) _).setCell (p := ⟨w.heap.size + 1, 0, none⟩) (by simp) _).setCell (p := ⟨w.heap.size + 1 + 1, 0, none⟩) (by simp; omega) _
    refine ⟨.tuple #[.string ⟨#[]⟩, .slice none 0 0, .bool false], by simp [results, Tryd.results17, go_sem, s0, s1, s2], hbf, ?_⟩
    rfl
  | some q =>
    obtain ⟨v, j⟩ := q
    go_enter_defers Tryd.func17, Tryd.ntmps17
    go_wp2_with (first
      | (go_at_call 30
         go_must (
           (rw [← HW0.out])
           refine (copied_b w0 A c d (HR.out.below HBEL0.out |>.more HBEL0.out.size) (by omega)).mono ?_
           rintro e w2 ⟨g2, cs2, rfl, hb2, hcs2, hcm2, ht2, hB2, hbel2⟩
           have HR2 := Lib.hid (bs_reads hb2 hcs2 ht2)
           have HBE2 := Lib.hid hbel2
           have HC2 := Lib.hid (And.intro hcs2 hcm2)
           clear hb2 hcs2 hcm2 ht2 hB2 hbel2))
      | (go_at_call 29
         go_must (
           (refine (New_calls w2 (some ⟨g2, 0, none⟩) d cs2.length (.inr ⟨g2, rfl⟩) HC2.out.1 HC2.out.2 hl HR2.out).mono ?_)
           rintro e w3 ⟨rfl, h3, hb3⟩
           have hz2 : w0.heap.size ≤ w2.heap.size := HBE2.out.size
           have hbe3 : Below w0.heap.size w0 w3 := HBE2.out.trans (hb3.mono hz2)
           have H3 := Lib.hid h3
           have HE3 : Hid (EofS w3 w2.heap.size) := Lib.hid ⟨Nat.lt_of_lt_of_le HEOF.out.1 (Nat.le_trans HBEL0.out.size hz2), (by obtain ⟨h1, te, ve, h2⟩ := HEOF.out; exact ⟨te, ve, ((HBEL0.out.trans (hbe3.mono HBEL0.out.size)).cell h1).trans h2⟩)⟩
           have HB3 := Lib.hid hbe3
           clear h3 hb3 hbe3))
      | (go_at_call 45
         go_must (
           (refine (ReadString_calls w3 w2.heap.size d H3.out HBY.out HE3.out _ HP.out).mono ?_)
           rintro e w4 ⟨rfl, h4, hb4⟩
           have HB4 := Lib.hid (HB3.out.trans (hb4.mono hz2))
           have H4 := Lib.hid h4
           clear hb4 h4))
      | (go_at_call 46
         go_must (
           (refine (behind_ReadString_yes w4 w2.heap.size d j _ H4.out).mono ?_)
           rintro e w5 ⟨g5, c5, rfl, hr5, hb5, hg5⟩
           have hbel6 : Below w0.heap.size w0 w5 := HB4.out.trans (hb5.mono HB4.out.size)
           have hbel7 := hbel6
           rw [HSZ.out, HW0.out] at hbel7
           obtain ⟨k0, k1, k2⟩ := three_cells (w := w) hbel7
           have r0 := k0.cell 0
           have r1 := k1.cell 0
           have r2 := k2.cell 0
           have f0 := k0.frozen 0
           have f1 := k1.frozen 0
           have f2 := k2.frozen 0
           have z0 := k0.lt
           have z1 := k1.lt
           have z2 := k2.lt
           have K0 := Lib.hid k0
           have K1 := Lib.hid k1
           have K2 := Lib.hid k2
           have HR5 := Lib.hid hr5
           have HG5 := Lib.hid (Nat.le_trans HB4.out.size hg5)
           have HB6 := Lib.hid hbel6
           clear k0 k1 k2 hbel6 hbel7 hr5 hb5 hg5)))
    refine leaves_cons (f := 44) (args := #[.pointer (some ⟨w.heap.size, 0, none⟩), .pointer (some ⟨w.heap.size + 1, 0, none⟩), .pointer (some ⟨w.heap.size + 1 + 1, 0, none⟩)]) (by simp) (by simp [go_sem]) ?_
    refine (noValue_ReadString _ _ _ _).mono ?_
    rintro e u' w'' ⟨rfl, rfl, rfl⟩
    have s0 : (((w5.setCell ⟨w.heap.size, 0, none⟩ (.string (strOfNums v))).setCell ⟨w.heap.size + 1, 0, none⟩ (.slice (some ⟨g5, 0, none⟩) (d.length - j) c5)).setCell ⟨w.heap.size + 1 + 1, 0, none⟩ (.bool true)).cell? ⟨w.heap.size, 0, none⟩ = some (.string (strOfNums v)) := (((K0.out.set_ 0 _).far (p := ⟨w.heap.size + 1, 0, none⟩) (by simp) _).far (p := ⟨w.heap.size + 1 + 1, 0, none⟩) (by simp; omega) _).cell 0
    have s1 : (((w5.setCell ⟨w.heap.size, 0, none⟩ (.string (strOfNums v))).setCell ⟨w.heap.size + 1, 0, none⟩ (.slice (some ⟨g5, 0, none⟩) (d.length - j) c5)).setCell ⟨w.heap.size + 1 + 1, 0, none⟩ (.bool true)).cell? ⟨w.heap.size + 1, 0, none⟩ = some (.slice (some ⟨g5, 0, none⟩) (d.length - j) c5) := (((K1.out.far (p := ⟨w.heap.size, 0, none⟩) (by simp) _).set_ 0 _).far (p := ⟨w.heap.size + 1 + 1, 0, none⟩) (by simp) _).cell 0
    have s2 : (((w5.setCell ⟨w.heap.size, 0, none⟩ (.string (strOfNums v))).setCell ⟨w.heap.size + 1, 0, none⟩ (.slice (some ⟨g5, 0, none⟩) (d.length - j) c5)).setCell ⟨w.heap.size + 1 + 1, 0, none⟩ (.bool true)).cell? ⟨w.heap.size + 1 + 1, 0, none⟩ = some (.bool true) := (((K2.out.far (p := ⟨w.heap.size, 0, none⟩) (by simp; omega) _).far (p := ⟨w.heap.size + 1, 0, none⟩) (by simp) _).set_ 0 _).cell 0
    have hbf : Below w.heap.size w (((w5.setCell ⟨w.heap.size, 0, none⟩ (.string (strOfNums v))).setCell ⟨w.heap.size + 1, 0, none⟩ (.slice (some ⟨g5, 0, none⟩) (d.length - j) c5)).setCell ⟨w.heap.size + 1 + 1, 0, none⟩ (.bool true)) := (((HBEL0.out.trans (HB6.out.mono HBEL0.out.size)).setCell (p := ⟨w.heap.size, 0, none⟩) (by simp) _).setCell (p := ⟨w.heap.size + 1, 0, none⟩) (by simp) _).setCell (p := ⟨w.heap.size + 1 + 1, 0, none⟩) (by simp; omega) _
    refine ⟨.tuple #[.string (strOfNums v), .slice (some ⟨g5, 0, none⟩) (d.length - j) c5, .bool true], by simp [results, Tryd.results17, go_sem, s0, s1, s2], hbf, ?_⟩
    have hz0 := HSZ.out
    have hg5 := HG5.out
    exact ⟨_, _, rfl, ((((HR5.out.far (p := ⟨w.heap.size, 0, none⟩) (by simp; omega) _).far (p := ⟨w.heap.size + 1, 0, none⟩) (by simp; omega) _).far (p := ⟨w.heap.size + 1 + 1, 0, none⟩) (by simp; omega) _).more (by simp))⟩
/-- 'append(x, s...)', an operation of a list, x of the call's own. -/
theorem wpList_append_str {w : World} {B n : Nat} {v : Value} {s : ByteArray} {l : List Int} {ops : Array Oper} {rest : List Oper} {o : Oper} {a : Act} {Q : Exit → Act → World → Prop} (hgd : o.guard = none) (x y : Operand)
    (ho : o.op = .call { callee := .builtin .append, args := #[x, y], argTypes := #[26, 9] }) (hs : a.eval x = v) (hx : a.eval y = .string s)
    (hown : w.ownsRow B 5 1 v n (bs l)) (hB : B ≤ w.heap.size) (hn : n + s.size ≤ 140737488355328)
    (h : ∀ v' w', w'.ownsRow B 5 1 v' (n + s.size) (bs l ++ Lib.strCells s) → w.grownBy w' v.ownBlock → wpList Tryd.prog ops Q rest (a.put o.dst v') w') : wpList Tryd.prog ops Q (o :: rest) a w := by
  refine wpList_plain hgd fun K' hK' => ?_
  obtain ⟨i0, hi0, hz0, hz1, hz2⟩ := info_parts infoU8
  obtain ⟨v', w', hr, h2, h3, h4⟩ := Lib.run_append_own_string (P := Tryd.prog) (w := w) B 26 9 o.type 5 i0 Tryd.underlying26 Tryd.underlying9 hi0 hz0 hz1 hz2 v n (bs l) hown s (by simp only [maxLen]; omega) hn hB
  unfold Oper.wp execOp
  simp only [ho, resolve, invoke, builtin, Sem.run_bind, Sem.run_pure, Result.andThen_ok, List.map_toArray, List.map_cons, List.map_nil, hs, hx, hr]
  exact hK' _ _ (h v' w' h2 h3)
theorem bw_next2 {w0 W w2 : World} {B gb n : Nat} {l : List Int} {xs : List Value} {v v2 : Value} (hown : W.ownsRow B 5 1 v n xs) (hblk : Blk W gb 80 [v, .int .i64 0]) (hbel : Below B w0 W) (hB : B ≤ gb) (hne : some gb ≠ v.ownBlock)
    (hown2 : w2.ownsRow B 5 1 v2 l.length (bs l)) (hg2 : W.grownBy w2 v.ownBlock) :
    Blk w2 gb 80 [v, .int .i64 0] ∧ Bw w0 (w2.setCell ⟨gb, 0, none⟩ v2) B gb l := by
  have hlt := hblk.lt
  have h2 := hblk.grown hg2 hne
  have hne2 : some gb ≠ v2.ownBlock := own_ne hown2 h2 (by decide)
  exact ⟨h2, ⟨v2, h2.set_ 0 v2, own_far hown2 hne2, (hbel.grown hg2 (by omega) (fun k hk => (hown.lt k hk).1)).setCell hB _, hB, hne2⟩⟩
set_option maxHeartbeats 1000000 in
set_option maxRecDepth 100000 in
theorem AppendString_a (w0 w : World) (B gb : Nat) (l : List Int) (hb : Bw w0 w B gb l) (hs : l.length ≤ 1000) :
    Calls Tryd.prog 78 #[.pointer (some ⟨gb, 0, none⟩), .string ⟨#[97]⟩] w fun e w' => e = .returned (.tuple #[]) ∧ Bw w0 w' B gb (l ++ [97]) := by
  obtain ⟨v, hblk, hown, hbel, hB, hne⟩ := hb
  have q0 : w.cell? ⟨gb, 0, none⟩ = some v := hblk.cell 0
  have hgb := hblk.lt
  have HBLK := Lib.hid hblk
  have HOWN := Lib.hid hown
  have HBEL := Lib.hid hbel
  have HNE := Lib.hid hne
  clear hblk hown hbel hne
  go_enter Tryd.func78, Tryd.ntmps78
  go_wp2_with (first
      | (at_builtin
         go_must (
           (refine wpList_append_str rfl (.tmp 8) (.tmp 9) rfl rfl rfl HOWN.out (by omega) (by show l.length + 1 ≤ _; omega) ?_)
           intro v2 w2 hown2 hg2
           have hown3 : w2.ownsRow B 5 1 v2 (l ++ [97]).length (bs (l ++ [97])) := by
             rw [bs_append, List.length_append]
             exact hown2
           obtain ⟨hb2, hbw2⟩ := bw_next2 HOWN.out HBLK.out HBEL.out hB HNE.out hown3 hg2
           have n0 : w2.cell? ⟨gb, 0, none⟩ = some v := hb2.cell 0
           have f0 := hb2.frozen 0
           have hz : gb < w2.heap.size := hb2.lt
           obtain ⟨A2, c2, rfl⟩ := own_form hown2
           have HBW := Lib.hid hbw2
           clear hown2 hown3 hg2 hb2 hbw2)))
  go_end0
  exact ⟨rfl, HBW.out⟩
end Go.Proofs.YtjjhckbidcdkcaaDoor
