/- spec.numbered. PRINTED by wip/genij.py. -/
import Derived.Test.YtjjhckbidcdkcaaDoorIi
import Derived.Test.YtjjhckbidcdkcaaDoorGm
namespace Go.Proofs.YtjjhckbidcdkcaaDoor
open Go.RowKit
set_option linter.unusedVariables false

/-- What the operations of 'full := piece{..}' leave. -/
def GF (vb B : Nat) (k C u : Int) (Z : Nat) : Nat → Value → World → Prop
  | 0, x, _ => x = .pointer (some ⟨vb, 0, none⟩)
  | 1, x, _ => x = .int .i64 k
  | 2, x, _ => x = .int .i64 C
  | 3, x, _ => x = .int .u64 u
  | 4, x, _ => x = .pointer (some ⟨vb, 0, none⟩)
  | 5, x, _ => x = .int .i64 k
  | 6, x, _ => x = .int .i64 Z
  | 7, x, w => OwnB w B (be u Z) x
  | 8, x, w => ∃ d, x = .agg #[.int .i64 C, d] ∧ OwnB w B (be u Z) d
  | 9, x, w => ∃ p, x = .pointer (some ⟨p, 0, none⟩) ∧ B ≤ p ∧ Blk w p 118 [.int .i64 0, .slice none 0 0]
  | _, _, _ => True
theorem GF_keep (vb B : Nat) (k C u : Int) (Z : Nat) (i : Nat) (x : Value) (w w' : World) (hi : i < 10) (hE : Below w.heap.size w w') (h : GF vb B k C u Z i x w) : GF vb B k C u Z i x w' := by
  match i, hi with
  | 0, _ => exact h
  | 1, _ => exact h
  | 2, _ => exact h
  | 3, _ => exact h
  | 4, _ => exact h
  | 5, _ => exact h
  | 6, _ => exact h
  | 7, _ => exact OwnB.below h hE
  | 8, _ =>
    obtain ⟨d, h1, h2⟩ := h
    exact ⟨d, h1, h2.below hE⟩
  | 9, _ =>
    obtain ⟨p, h1, h2, h3⟩ := h
    exact ⟨p, h1, h2, h3.below hE h3.lt⟩

/-- What the operations of 'out = append([]piece{..}, out...)' leave, a call of big among them. -/
def G8 (vb B : Nat) (k C u : Int) (L : List Pce) (vo : Value) : Nat → Value → World → Prop
  | 4, x, _ => x = .pointer (some ⟨vb, 0, none⟩)
  | 5, x, _ => x = .int .i64 k
  | 6, x, _ => x = .int .i64 C
  | 7, x, _ => x = .int .u64 u
  | 8, x, w => OwnB w B (be u 1) x
  | 9, x, w => ∃ d, x = .agg #[.int .i64 C, d] ∧ OwnB w B (be u 1) d
  | 10, x, w => PcsW w B [(C, be u 1)] x
  | 11, x, w => x = vo ∧ PcsW w B L vo
  | _, _, _ => True
theorem G8_keep (vb B : Nat) (k C u : Int) (L : List Pce) (vo : Value) (i : Nat) (x : Value) (w w' : World) (hi : i < 12) (hE : EC w w') (h : G8 vb B k C u L vo i x w) : G8 vb B k C u L vo i x w' := by
  match i, hi with
  | 0, _ => exact h
  | 1, _ => exact h
  | 2, _ => exact h
  | 3, _ => exact h
  | 4, _ => exact h
  | 5, _ => exact h
  | 6, _ => exact h
  | 7, _ => exact h
  | 8, _ => exact OwnB.cells h hE
  | 9, _ =>
    obtain ⟨d, h1, h2⟩ := h
    exact ⟨d, h1, h2.cells hE⟩
  | 10, _ => exact PcsW.cells h hE
  | 11, _ => exact ⟨h.1, h.2.cells hE⟩
/-- The same without a call. -/
def G10 (vb B : Nat) (k C : Int) (L : List Pce) (vo : Value) : Nat → Value → World → Prop
  | 4, x, _ => x = .pointer (some ⟨vb, 0, none⟩)
  | 5, x, _ => x = .int .i64 k
  | 6, x, _ => x = .int .i64 C
  | 7, x, _ => x = .agg #[.int .i64 C, .slice none 0 0]
  | 8, x, w => PcsW w B [(C, [])] x
  | 9, x, w => x = vo ∧ PcsW w B L vo
  | _, _, _ => True
theorem G10_keep (vb B : Nat) (k C : Int) (L : List Pce) (vo : Value) (i : Nat) (x : Value) (w w' : World) (hi : i < 10) (hE : EC w w') (h : G10 vb B k C L vo i x w) : G10 vb B k C L vo i x w' := by
  match i, hi with
  | 0, _ => exact h
  | 1, _ => exact h
  | 2, _ => exact h
  | 3, _ => exact h
  | 4, _ => exact h
  | 5, _ => exact h
  | 6, _ => exact h
  | 7, _ => exact h
  | 8, _ => exact PcsW.cells h hE
  | 9, _ => exact ⟨h.1, h.2.cells hE⟩
theorem step_next {w0 w w' : World} {P : List (Nat × Int × Int)} {m : Nat} {l : Array Bool} {v : Nat → Value} (h : MpR w0 P m l v w) (hb : Below w.heap.size w w') (i : Nat) (hi : i ≠ 0) (him : i ≠ m) (hm : m ≠ 0) (hP : (P.all fun p => decide (p.1 ≠ i)) = true) (x : Value) : EC w w' ∧ MpR w0 P m (l.setIfInBounds i true) (upd v i x) w' := ⟨EC.of_below hb, h.next hb i hi him hm hP x⟩
set_option maxHeartbeats 4000000 in
set_option maxRecDepth 3000 in
theorem numbered_plain (W : World) (k u o : Int) (s : ByteArray) (n0 n1 c0 c1 : Nat) (A0 A1 : Option Addr) (hu0 : 0 ≤ u) (hu1 : u ≤ 18446744073709551615) (hk2 : 2 ≤ k) (hk16 : k ≤ 16) (h4 : k ≠ 4) (h5 : k ≠ 5) (h8 : k ≠ 8) (h9 : k ≠ 9) (h14 : k ≠ 14) (Z : Nat) (hZ : fsz k = (Z : Int)) (hZ8 : Z ≤ 8) (C : Int) (hC : cod k = C) :
    Calls Tryd.prog 90 #[.agg #[.int .i64 k, .int .u64 u, .string s, .slice A0 n0 c0, .int .i64 o, .slice A1 n1 c1]] W fun e W' => ∃ v, e = .returned v ∧ PcsW W' W.heap.size [(C, be u Z)] v ∧ Below W.heap.size W W' := by
  obtain ⟨w1, hw1⟩ : ∃ w1, w1 = W.alloc (.cells #[.int .i64 k, .int .u64 u, .string s, .slice A0 n0 c0, .int .i64 o, .slice A1 n1 c1] 25) := ⟨_, rfl⟩
  have hp1 : Blk w1 W.heap.size 25 [.int .i64 k, .int .u64 u, .string s, .slice A0 n0 c0, .int .i64 o, .slice A1 n1 c1] := by rw [hw1]; exact Blk.new W 25 [.int .i64 k, .int .u64 u, .string s, .slice A0 n0 c0, .int .i64 o, .slice A1 n1 c1]
  have hb1 : Below W.heap.size W w1 := by rw [hw1]; exact (Below.refl _ W).alloc (Nat.le_refl _) _
  have v0 := hp1.cell 0
  have v1 := hp1.cell 1
  simp only [List.getElem?_cons_zero, List.getElem?_cons_succ] at v0 v1
  have hcc := fun w => coded_calls w k (by omega)
  rw [hC] at hcc
  have hxx := fun w => fixedSize_calls w k (by omega)
  rw [hZ] at hxx
  have e4 : (k == 4) = false := by rw [beq_eq_false_iff_ne]; exact h4
  have e5 : (k == 5) = false := by rw [beq_eq_false_iff_ne]; exact h5
  have e8 : (k == 8) = false := by rw [beq_eq_false_iff_ne]; exact h8
  have e9 : (k == 9) = false := by rw [beq_eq_false_iff_ne]; exact h9
  have HW1 := Lib.hid hw1
  have HP1 := Lib.hid hp1
  have HB1 := Lib.hid hb1
  have HCC := Lib.hid hcc
  have HXX := Lib.hid hxx
  clear hw1 hp1 hb1 hcc hxx h4 h5 h8 h9 h14 hk2 hk16
  go_enter Tryd.func90, Tryd.ntmps90
  go_upto_region 1 with (fail)
  rw [← HW1.out]
  go_quiet (fail)
  go_wp2
  refine region_front 10 (GF W.heap.size W.heap.size k C u Z) (fun _ _ w => Below W.heap.size W w ∧ Blk w W.heap.size 25 [.int .i64 k, .int .u64 u, .string s, .slice A0 n0 c0, .int .i64 o, .slice A1 n1 c1]) (fun w w' => Below w.heap.size w w') (by kernel_rfl) (by kernel_rfl) (by kernel_rfl) (by kernel_rfl) (by decide) (by kernel_rfl) (by kernel_rfl) (GF_keep _ _ _ _ _ _) ⟨below_drewN HB1.out (nq + 1), HP1.out.drewN (nq + 1)⟩ ?_ ?_
  · intro i hi li v a w inv F hr
    obtain ⟨hbel, hblk⟩ := F.res
    have t1 := F.oldv (s := 1) (by kernel_rfl)
    have t3 := F.oldv (s := 3) (by kernel_rfl)
    rcases (show i = 0 ∨ i = 1 ∨ i = 2 ∨ i = 3 ∨ i = 4 ∨ i = 5 ∨ i = 6 ∨ i = 7 ∨ i = 8 ∨ i = 9 by omega) with rfl | rfl | rfl | rfl | rfl | rfl | rfl | rfl | rfl | rfl
    · refine ⟨_, rfl, rfl, oper_plain (.pointer (some ⟨W.heap.size, 0, none⟩)) (w' := w) ?_ ⟨_, rfl, Below.refl _ _, rfl, hbel, hblk⟩⟩
      have h1 : a.tmps.getD 1 undef = .pointer (some ⟨W.heap.size, 0, none⟩) := t1
      clear F hblk hbel
      go_simp
    · obtain ⟨r0, g0⟩ := F.slot (d := 0) (s := 12) hr (by kernel_rfl) (by omega) (by kernel_rfl)
      refine ⟨_, rfl, rfl, oper_plain (.int .i64 k) (w' := w) ?_ ⟨_, rfl, Below.refl _ _, rfl, hbel, hblk⟩⟩
      have h1 : a.tmps.getD 12 undef = .pointer (some ⟨W.heap.size, 0, none⟩) := r0.trans g0
      have hc := hblk.cell 0
      simp only [List.getElem?_cons_zero] at hc
      clear F hblk hbel r0 g0
      go_simp
    · obtain ⟨r0, g0⟩ := F.slot (d := 1) (s := 13) hr (by kernel_rfl) (by omega) (by kernel_rfl)
      have h1 : a.tmps.getD 13 undef = .int .i64 k := r0.trans g0
      refine ⟨_, rfl, rfl, oper_call 87 #[.int .i64 k] ?_ ((HCC.out w).mono ?_)⟩
      · clear F hblk hbel r0 g0
        go_simp
      · rintro e w' ⟨rfl, hb⟩
        exact ⟨_, rfl, _, rfl, hb, rfl, hbel.trans (hb.mono hbel.size), hblk.below hb hblk.lt⟩
    · have h1 : a.tmps.getD 3 undef = .int .u64 u := t3
      refine ⟨_, rfl, rfl, oper_plain (.int .u64 u) (w' := w) ?_ ⟨_, rfl, Below.refl _ _, rfl, hbel, hblk⟩⟩
      clear F hblk hbel
      go_simp
    · refine ⟨_, rfl, rfl, oper_plain (.pointer (some ⟨W.heap.size, 0, none⟩)) (w' := w) ?_ ⟨_, rfl, Below.refl _ _, rfl, hbel, hblk⟩⟩
      have h1 : a.tmps.getD 1 undef = .pointer (some ⟨W.heap.size, 0, none⟩) := t1
      clear F hblk hbel
      go_simp
    · obtain ⟨r0, g0⟩ := F.slot (d := 4) (s := 16) hr (by kernel_rfl) (by omega) (by kernel_rfl)
      refine ⟨_, rfl, rfl, oper_plain (.int .i64 k) (w' := w) ?_ ⟨_, rfl, Below.refl _ _, rfl, hbel, hblk⟩⟩
      have h1 : a.tmps.getD 16 undef = .pointer (some ⟨W.heap.size, 0, none⟩) := r0.trans g0
      have hc := hblk.cell 0
      simp only [List.getElem?_cons_zero] at hc
      clear F hblk hbel r0 g0
      go_simp
    · obtain ⟨r0, g0⟩ := F.slot (d := 5) (s := 17) hr (by kernel_rfl) (by omega) (by kernel_rfl)
      have h1 : a.tmps.getD 17 undef = .int .i64 k := r0.trans g0
      refine ⟨_, rfl, rfl, oper_call 95 #[.int .i64 k] ?_ ((HXX.out w).mono ?_)⟩
      · clear F hblk hbel r0 g0
        go_simp
      · rintro e w' ⟨rfl, hb⟩
        exact ⟨_, rfl, _, rfl, hb, rfl, hbel.trans (hb.mono hbel.size), hblk.below hb hblk.lt⟩
    · obtain ⟨r0, g0⟩ := F.slot (d := 3) (s := 15) hr (by kernel_rfl) (by omega) (by kernel_rfl)
      obtain ⟨r1, g1⟩ := F.slot (d := 6) (s := 18) hr (by kernel_rfl) (by omega) (by kernel_rfl)
      have h1 : a.tmps.getD 15 undef = .int .u64 u := r0.trans g0
      have h2 : a.tmps.getD 18 undef = .int .i64 (Z : Int) := r1.trans g1
      refine ⟨_, rfl, rfl, oper_call 98 #[.int .u64 u, .int .i64 Z] ?_ ((big_calls2 w u Z hu0 hu1 hZ8).mono ?_)⟩
      · clear F hblk hbel r0 g0 r1 g1
        go_simp
      · rintro e w' ⟨Ab, cb, rfl, hob, hb⟩
        refine ⟨_, rfl, _, rfl, hb, ?_, hbel.trans (hb.mono hbel.size), hblk.below hb hblk.lt⟩
        exact (OwnB.of_own hob (be_length _ _)).lower hbel.size
    · obtain ⟨r0, g0⟩ := F.slot (d := 2) (s := 14) hr (by kernel_rfl) (by omega) (by kernel_rfl)
      obtain ⟨r1, g1⟩ := F.slot (d := 7) (s := 19) hr (by kernel_rfl) (by omega) (by kernel_rfl)
      have h1 : a.tmps.getD 14 undef = .int .i64 C := r0.trans g0
      have h2 : a.tmps.getD 19 undef = v 7 := r1
      refine ⟨_, rfl, rfl, oper_plain (.agg #[.int .i64 C, v 7]) (w' := w) ?_ ⟨_, rfl, Below.refl _ _, ⟨v 7, rfl, (show OwnB _ _ _ _ from g1)⟩, hbel, hblk⟩⟩
      obtain ⟨Ad, cd, hvd, _⟩ := g1
      rw [hvd] at h2 ⊢
      clear F hblk hbel r0 g0 r1 hvd
      rw [Array.getD_eq_getD_getElem?] at h1 h2
      go_simp
    · refine ⟨_, rfl, rfl, oper_plain (.pointer (some ⟨w.heap.size, 0, none⟩)) (w' := w.alloc (.cells #[.int .i64 0, .slice none 0 0] 118)) ?_ ⟨_, rfl, (Below.refl _ w).alloc (Nat.le_refl _) _, ⟨_, rfl, hbel.size, Blk.new w 118 [.int .i64 0, .slice none 0 0]⟩, hbel.alloc hbel.size _, hblk.alloc _⟩⟩
      clear F hblk hbel
      go_simp
  · intro v w hG hR
    obtain ⟨hbel, hblk⟩ := hR
    simp only [List.take_succ_cons, List.take_zero, List.drop_succ_cons, List.drop_zero, List.map_cons, List.map_nil, puts, Nat.zero_add, Nat.reduceAdd]
    go_frame
    obtain ⟨d, hx8, ho8⟩ := hG 8 (by omega)
    obtain ⟨p, hx9, hpB, hp9⟩ := hG 9 (by omega)
    have ho9 := ho8
    obtain ⟨Ad, cd, hvd, hrd⟩ := ho8
    rw [be_length] at hvd
    subst hvd
    rw [hx8, hx9]
    have ho8 := ho9
    clear ho9 hrd
    have q0 := hp9.cell 0
    have q1 := hp9.cell 1
    have qz := hp9.frozen 0
    have qz1 := hp9.frozen 1
    simp only [List.getElem?_cons_zero, List.getElem?_cons_succ] at q0 q1
    have HQ := Lib.hid hp9
    have HO := Lib.hid ho8
    have HBL := Lib.hid hblk
    have HBE := Lib.hid hbel
    clear hG hx8 hx9 hp9 ho8 hblk hbel HCC HXX v0 v1
    go_upto_region 3 with (fail)
    obtain ⟨w3, hw3⟩ : ∃ w3, w3 = (w.setCell ⟨p, 0, none⟩ (.int .i64 C)).setCell ⟨p, 1, none⟩ (.slice Ad Z cd) := ⟨_, rfl⟩
    rw [← hw3]
    have hne : p ≠ W.heap.size := HQ.out.ne_ HBL.out (by decide)
    have hg3 : w.grownBy w3 (some p) := by rw [hw3]; exact grownV_trans (grown_set w p 0 _) (grown_set _ p 1 _)
    have hp3 : Blk w3 p 118 [.int .i64 C, .slice Ad Z cd] := by rw [hw3]; exact (HQ.out.set_ 0 _).set_ 1 _
    have hv3 := HBL.out.grown hg3 (fun e => hne (by injection e with e; exact e.symm))
    have ho3 := HO.out.keptg HQ.out (by decide) hg3
    have hb3 : Below W.heap.size W w3 := HBE.out.grown hg3 HBE.out.size (fun j hj => by injection hj with hj; omega)
    have x0 := hp3.cell 0
    have x1 := hp3.cell 1
    have y0 := hv3.cell 0
    simp only [List.getElem?_cons_zero, List.getElem?_cons_succ] at x0 x1 y0
    have hz3 : W.heap.size < w3.heap.size := hv3.lt
    have HP3 := Lib.hid hp3
    have HV3 := Lib.hid hv3
    have HO3 := Lib.hid ho3
    have HB3 := Lib.hid hb3
    clear hw3 hg3 hp3 hv3 ho3 hb3 q0 q1 qz qz1 HQ HO HBL HBE
    go_wp2
    go_ret
    refine ⟨_, rfl, pcsW_one _ _ (C, be u Z) _ HB3.out.size HO3.out, HB3.out.alloc HB3.out.size _⟩
end Go.Proofs.YtjjhckbidcdkcaaDoor
