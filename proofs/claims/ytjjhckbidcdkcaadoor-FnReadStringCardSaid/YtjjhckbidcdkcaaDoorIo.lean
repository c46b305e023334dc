/- spec.numbered at kind 4. PRINTED by wip/genij.py. · spec.numbered at kind 5. PRINTED by wip/genij.py. · spec.numbered at kind 8. PRINTED by wip/genij.py. · spec.numbered at kind 9. PRINTED by wip/genij.py. · spec.numbered at any number. By hand. -/
import Derived.Test.YtjjhckbidcdkcaaDoorIj
namespace Go.Proofs.YtjjhckbidcdkcaaDoor
open Go.RowKit
set_option linter.unusedVariables false

set_option maxHeartbeats 4000000 in
set_option maxRecDepth 3000 in
theorem numbered_4 (W : World) (k u o : Int) (s : ByteArray) (n0 n1 c0 c1 : Nat) (A0 A1 : Option Addr) (hu0 : 0 ≤ u) (hu1 : u ≤ 18446744073709551615) (hk : k = 4) (Z : Nat) (hZ : fsz k = (Z : Int)) (hZ8 : Z ≤ 8) (C : Int) (hC : cod k = C) :
    Calls Tryd.prog 90 #[.agg #[.int .i64 k, .int .u64 u, .string s, .slice A0 n0 c0, .int .i64 o, .slice A1 n1 c1]] W fun e W' => ∃ v, e = .returned v ∧ PcsW W' W.heap.size ((if u = 0 then [(67, [])] else []) ++ (if u < 256 then [(82, be u 1)] else []) ++ [(C, be u Z)]) v ∧ Below W.heap.size W W' := by
  obtain ⟨w1, hw1⟩ : ∃ w1, w1 = W.alloc (.cells #[.int .i64 k, .int .u64 u, .string s, .slice A0 n0 c0, .int .i64 o, .slice A1 n1 c1] 25) := ⟨_, rfl⟩
  have hp1 : Blk w1 W.heap.size 25 [.int .i64 k, .int .u64 u, .string s, .slice A0 n0 c0, .int .i64 o, .slice A1 n1 c1] := by rw [hw1]; exact Blk.new W 25 [.int .i64 k, .int .u64 u, .string s, .slice A0 n0 c0, .int .i64 o, .slice A1 n1 c1]
  have hb1 : Below W.heap.size W w1 := by rw [hw1]; exact (Below.refl _ W).alloc (Nat.le_refl _) _
  have v0 := hp1.cell 0
  have v1 := hp1.cell 1
  simp only [List.getElem?_cons_zero, List.getElem?_cons_succ] at v0 v1
  have hcc := fun w => coded_calls w k (by omega)
  rw [hC] at hcc
  have hxx := fun w => fixedSize_calls w k (by omega)
  rw [hZ] at hxx
  have HKK : Hid (-9223372036854775808 ≤ k ∧ k ≤ 9223372036854775807) := Lib.hid (by omega)
  have HLK8 : Hid (look [(4, 82), (5, 83)] k = 82) := Lib.hid (by rw [hk]; rfl)
  have HLK10 : Hid (look [(5, 68), (4, 67)] k = 67) := Lib.hid (by rw [hk]; rfl)
  have e4 : (k == 4) = true := by rw [hk]; rfl
  have e5 : (k == 5) = false := by rw [hk]; rfl
  have e8 : (k == 8) = false := by rw [hk]; rfl
  have e9 : (k == 9) = false := by rw [hk]; rfl
  have HW1 := Lib.hid hw1
  have HP1 := Lib.hid hp1
  have HB1 := Lib.hid hb1
  have HCC := Lib.hid hcc
  have HXX := Lib.hid hxx
  clear hw1 hp1 hb1 hcc hxx hk
  go_enter Tryd.func90, Tryd.ntmps90
  go_upto_region 1 with (fail)
  rw [← HW1.out]
  go_quiet (fail)
  go_wp2
  refine region_front 10 (GF W.heap.size W.heap.size k C u Z) (fun _ _ w => Below W.heap.size W w ∧ Blk w W.heap.size 25 [.int .i64 k, .int .u64 u, .string s, .slice A0 n0 c0, .int .i64 o, .slice A1 n1 c1]) (fun w w' => Below w.heap.size w w') (by kernel_rfl) (by kernel_rfl) (by kernel_rfl) (by kernel_rfl) (by decide) (by kernel_rfl) (by kernel_rfl) (GF_keep _ _ _ _ _ _) ⟨below_drewN HB1.out (nq + 1), HP1.out.drewN (nq + 1)⟩ ?_ ?_
  · intro i hi li v a w inv F hr
    obtain ⟨hbel, hblk⟩ := F.res
    have t1 := F.oldv (s := 1) (by kernel_rfl)
    have t3 := F.oldv (s := 3) (by kernel_rfl)
    rcases (show i = 0 ∨ i = 1 ∨ i = 2 ∨ i = 3 ∨ i = 4 ∨ i = 5 ∨ i = 6 ∨ i = 7 ∨ i = 8 ∨ i = 9 by omega) with rfl | rfl | rfl | rfl | rfl | rfl | rfl | rfl | rfl | rfl
    · refine ⟨_, rfl, rfl, oper_plain (.pointer (some ⟨W.heap.size, 0, none⟩)) (w' := w) ?_ ⟨_, rfl, Below.refl _ _, rfl, hbel, hblk⟩⟩
      have h1 : a.tmps.getD 1 undef = .pointer (some ⟨W.heap.size, 0, none⟩) := t1
      clear F hblk hbel
      go_simp
    · obtain ⟨r0, g0⟩ := F.slot (d := 0) (s := 12) hr (by kernel_rfl) (by omega) (by kernel_rfl)
      refine ⟨_, rfl, rfl, oper_plain (.int .i64 k) (w' := w) ?_ ⟨_, rfl, Below.refl _ _, rfl, hbel, hblk⟩⟩
      have h1 : a.tmps.getD 12 undef = .pointer (some ⟨W.heap.size, 0, none⟩) := r0.trans g0
      have hc := hblk.cell 0
      simp only [List.getElem?_cons_zero] at hc
      clear F hblk hbel r0 g0
      go_simp
    · obtain ⟨r0, g0⟩ := F.slot (d := 1) (s := 13) hr (by kernel_rfl) (by omega) (by kernel_rfl)
      have h1 : a.tmps.getD 13 undef = .int .i64 k := r0.trans g0
      refine ⟨_, rfl, rfl, oper_call 87 #[.int .i64 k] ?_ ((HCC.out w).mono ?_)⟩
      · clear F hblk hbel r0 g0
        go_simp
      · rintro e w' ⟨rfl, hb⟩
        exact ⟨_, rfl, _, rfl, hb, rfl, hbel.trans (hb.mono hbel.size), hblk.below hb hblk.lt⟩
    · have h1 : a.tmps.getD 3 undef = .int .u64 u := t3
      refine ⟨_, rfl, rfl, oper_plain (.int .u64 u) (w' := w) ?_ ⟨_, rfl, Below.refl _ _, rfl, hbel, hblk⟩⟩
      clear F hblk hbel
      go_simp
    · refine ⟨_, rfl, rfl, oper_plain (.pointer (some ⟨W.heap.size, 0, none⟩)) (w' := w) ?_ ⟨_, rfl, Below.refl _ _, rfl, hbel, hblk⟩⟩
      have h1 : a.tmps.getD 1 undef = .pointer (some ⟨W.heap.size, 0, none⟩) := t1
      clear F hblk hbel
      go_simp
    · obtain ⟨r0, g0⟩ := F.slot (d := 4) (s := 16) hr (by kernel_rfl) (by omega) (by kernel_rfl)
      refine ⟨_, rfl, rfl, oper_plain (.int .i64 k) (w' := w) ?_ ⟨_, rfl, Below.refl _ _, rfl, hbel, hblk⟩⟩
      have h1 : a.tmps.getD 16 undef = .pointer (some ⟨W.heap.size, 0, none⟩) := r0.trans g0
      have hc := hblk.cell 0
      simp only [List.getElem?_cons_zero] at hc
      clear F hblk hbel r0 g0
      go_simp
    · obtain ⟨r0, g0⟩ := F.slot (d := 5) (s := 17) hr (by kernel_rfl) (by omega) (by kernel_rfl)
      have h1 : a.tmps.getD 17 undef = .int .i64 k := r0.trans g0
      refine ⟨_, rfl, rfl, oper_call 95 #[.int .i64 k] ?_ ((HXX.out w).mono ?_)⟩
      · clear F hblk hbel r0 g0
        go_simp
      · rintro e w' ⟨rfl, hb⟩
        exact ⟨_, rfl, _, rfl, hb, rfl, hbel.trans (hb.mono hbel.size), hblk.below hb hblk.lt⟩
    · obtain ⟨r0, g0⟩ := F.slot (d := 3) (s := 15) hr (by kernel_rfl) (by omega) (by kernel_rfl)
      obtain ⟨r1, g1⟩ := F.slot (d := 6) (s := 18) hr (by kernel_rfl) (by omega) (by kernel_rfl)
      have h1 : a.tmps.getD 15 undef = .int .u64 u := r0.trans g0
      have h2 : a.tmps.getD 18 undef = .int .i64 (Z : Int) := r1.trans g1
      refine ⟨_, rfl, rfl, oper_call 98 #[.int .u64 u, .int .i64 Z] ?_ ((big_calls2 w u Z hu0 hu1 hZ8).mono ?_)⟩
      · clear F hblk hbel r0 g0 r1 g1
        go_simp
      · rintro e w' ⟨Ab, cb, rfl, hob, hb⟩
        refine ⟨_, rfl, _, rfl, hb, ?_, hbel.trans (hb.mono hbel.size), hblk.below hb hblk.lt⟩
        exact (OwnB.of_own hob (be_length _ _)).lower hbel.size
    · obtain ⟨r0, g0⟩ := F.slot (d := 2) (s := 14) hr (by kernel_rfl) (by omega) (by kernel_rfl)
      obtain ⟨r1, g1⟩ := F.slot (d := 7) (s := 19) hr (by kernel_rfl) (by omega) (by kernel_rfl)
      have h1 : a.tmps.getD 14 undef = .int .i64 C := r0.trans g0
      have h2 : a.tmps.getD 19 undef = v 7 := r1
      refine ⟨_, rfl, rfl, oper_plain (.agg #[.int .i64 C, v 7]) (w' := w) ?_ ⟨_, rfl, Below.refl _ _, ⟨v 7, rfl, (show OwnB _ _ _ _ from g1)⟩, hbel, hblk⟩⟩
      obtain ⟨Ad, cd, hvd, _⟩ := g1
      rw [hvd] at h2 ⊢
      clear F hblk hbel r0 g0 r1 hvd
      rw [Array.getD_eq_getD_getElem?] at h1 h2
      go_simp
    · refine ⟨_, rfl, rfl, oper_plain (.pointer (some ⟨w.heap.size, 0, none⟩)) (w' := w.alloc (.cells #[.int .i64 0, .slice none 0 0] 118)) ?_ ⟨_, rfl, (Below.refl _ w).alloc (Nat.le_refl _) _, ⟨_, rfl, hbel.size, Blk.new w 118 [.int .i64 0, .slice none 0 0]⟩, hbel.alloc hbel.size _, hblk.alloc _⟩⟩
      clear F hblk hbel
      go_simp
  · intro v w hG hR
    obtain ⟨hbel, hblk⟩ := hR
    simp only [List.take_succ_cons, List.take_zero, List.drop_succ_cons, List.drop_zero, List.map_cons, List.map_nil, puts, Nat.zero_add, Nat.reduceAdd]
    go_frame
    obtain ⟨d, hx8, ho8⟩ := hG 8 (by omega)
    obtain ⟨p, hx9, hpB, hp9⟩ := hG 9 (by omega)
    have ho9 := ho8
    obtain ⟨Ad, cd, hvd, hrd⟩ := ho8
    rw [be_length] at hvd
    subst hvd
    rw [hx8, hx9]
    have ho8 := ho9
    clear ho9 hrd
    have q0 := hp9.cell 0
    have q1 := hp9.cell 1
    have qz := hp9.frozen 0
    have qz1 := hp9.frozen 1
    simp only [List.getElem?_cons_zero, List.getElem?_cons_succ] at q0 q1
    have HQ := Lib.hid hp9
    have HO := Lib.hid ho8
    have HBL := Lib.hid hblk
    have HBE := Lib.hid hbel
    clear hG hx8 hx9 hp9 ho8 hblk hbel HCC HXX v0 v1
    go_upto_region 3 with (fail)
    obtain ⟨w3, hw3⟩ : ∃ w3, w3 = (w.setCell ⟨p, 0, none⟩ (.int .i64 C)).setCell ⟨p, 1, none⟩ (.slice Ad Z cd) := ⟨_, rfl⟩
    rw [← hw3]
    have hne : p ≠ W.heap.size := HQ.out.ne_ HBL.out (by decide)
    have hg3 : w.grownBy w3 (some p) := by rw [hw3]; exact grownV_trans (grown_set w p 0 _) (grown_set _ p 1 _)
    have hp3 : Blk w3 p 118 [.int .i64 C, .slice Ad Z cd] := by rw [hw3]; exact (HQ.out.set_ 0 _).set_ 1 _
    have hv3 := HBL.out.grown hg3 (fun e => hne (by injection e with e; exact e.symm))
    have ho3 := HO.out.keptg HQ.out (by decide) hg3
    have hb3 : Below W.heap.size W w3 := HBE.out.grown hg3 HBE.out.size (fun j hj => by injection hj with hj; omega)
    have x0 := hp3.cell 0
    have x1 := hp3.cell 1
    have y0 := hv3.cell 0
    simp only [List.getElem?_cons_zero, List.getElem?_cons_succ] at x0 x1 y0
    have hz3 : W.heap.size < w3.heap.size := hv3.lt
    have HP3 := Lib.hid hp3
    have HV3 := Lib.hid hv3
    have HO3 := Lib.hid ho3
    have HB3 := Lib.hid hb3
    clear hw3 hg3 hp3 hv3 ho3 hb3 q0 q1 qz qz1 HQ HO HBL HBE
    obtain ⟨w4, hw4⟩ : ∃ w4, w4 = w3.alloc (.cells #[.int .i64 C, .slice Ad Z cd] 118) := ⟨_, rfl⟩
    obtain ⟨g6, hg6⟩ : ∃ g6, w3.heap.size = g6 := ⟨_, rfl⟩
    have hp4 : PcsW w4 W.heap.size [(C, be u Z)] (.slice (some ⟨g6, 0, none⟩) 1 1) := by rw [hw4, ← hg6]; exact pcsW_one _ _ (C, be u Z) _ HB3.out.size HO3.out
    have hb4 : Below W.heap.size W w4 := by rw [hw4]; exact HB3.out.alloc HB3.out.size _
    have hv4 : Blk w4 W.heap.size 25 [.int .i64 k, .int .u64 u, .string s, .slice A0 n0 c0, .int .i64 o, .slice A1 n1 c1] := by rw [hw4]; exact HV3.out.alloc _
    have hz4 := hv4.lt
    have y4 := hv4.cell 0
    simp only [List.getElem?_cons_zero] at y4
    have HP4 := Lib.hid hp4
    have HB4 := Lib.hid hb4
    have HV4 := Lib.hid hv4
    have HW4 := Lib.hid hw4
    have HG6 := Lib.hid hg6
    clear hp4 hb4 hv4 hw4 hg6
    by_cases hlt : u < 256
    · have hd : decide (u < 256) = true := decide_eq_true hlt
      go_upto_region 8 with (fail)
      rw [← HW4.out, HG6.out]
      clear x0 x1 y0 hz3 HP3 HV3 HO3 HB3 hpB hne
      have HVD : Hid (Blk w4.drew W.heap.size 25 [.int .i64 k, .int .u64 u, .string s, .slice A0 n0 c0, .int .i64 o, .slice A1 n1 c1]) := Lib.hid ((HV4.out).drewN 1)
      have HBD : Hid (Below W.heap.size W w4.drew) := Lib.hid (below_drewN (HB4.out) 1)
      have HPD : Hid (PcsW w4.drew W.heap.size [(C, be u Z)] (.slice (some ⟨g6, 0, none⟩) 1 1)) := Lib.hid (PcsW.below (HP4.out) (Below.refl _ _).drew)
      refine region_front 12 (G8 W.heap.size W.heap.size k 82 u [(C, be u Z)] (.slice (some ⟨g6, 0, none⟩) 1 1)) (fun l v w => MpR w4.drew [(1, 4, 82), (2, 5, 83)] 3 l v w) EC (by kernel_rfl) (by kernel_rfl) (by kernel_rfl) (by kernel_rfl) (by decide) (by kernel_rfl) (by kernel_rfl) (G8_keep _ _ _ _ _ _ _) (MpR.start _ _ _ _ _) ?_ ?_
      · intro i hi li v a w inv F hr
        have hR := F.res
        have hun := (mem_ready.1 hr).1
        have hblk := HVD.out.below hR.bel HVD.out.lt
        have t1 : a.tmps.getD 1 undef = .pointer (some ⟨W.heap.size, 0, none⟩) := F.oldv (s := 1) (by kernel_rfl)
        have t3 : a.tmps.getD 3 undef = .int .u64 u := F.oldv (s := 3) (by kernel_rfl)
        have t6 : a.tmps.getD 6 undef = (.slice (some ⟨g6, 0, none⟩) 1 1) := F.oldv (s := 6) (by kernel_rfl)
        rcases (show i = 0 ∨ i = 1 ∨ i = 2 ∨ i = 3 ∨ i = 4 ∨ i = 5 ∨ i = 6 ∨ i = 7 ∨ i = 8 ∨ i = 9 ∨ i = 10 ∨ i = 11 by omega) with rfl | rfl | rfl | rfl | rfl | rfl | rfl | rfl | rfl | rfl | rfl | rfl
        · exact ⟨_, rfl, rfl, hR.make (G8 W.heap.size W.heap.size k 82 u [(C, be u Z)] (.slice (some ⟨g6, 0, none⟩) 1 1)) (fun _ _ => trivial) hun (by decide) (by decide) 158 rfl⟩
        · obtain ⟨r0, -⟩ := F.slot (d := 0) (s := 30) hr (by kernel_rfl) (by omega) (by kernel_rfl)
          have hmj : li.getD 3 false = false := by
            cases hb : li.getD 3 false with
            | false => rfl
            | true =>
              have h1 := closed_of inv (j := 3) (d := 1) (by kernel_rfl) hb
              rw [getD_both hun] at h1
              cases h1
          exact ⟨_, rfl, rfl, hR.insert (G8 W.heap.size W.heap.size k 82 u [(C, be u Z)] (.slice (some ⟨g6, 0, none⟩) 1 1)) (fun _ _ => trivial) hun (by decide) (by decide) hmj (by decide) (dep_of (d := 0) (by kernel_rfl) hr) (.tmp 30) (.const (.int .i64 4)) (.const (.int .i64 82)) rfl rfl 4 82 rfl rfl r0 (by decide) (by decide) (by decide) (by omega) (by omega)⟩
        · obtain ⟨r0, -⟩ := F.slot (d := 0) (s := 30) hr (by kernel_rfl) (by omega) (by kernel_rfl)
          have hmj : li.getD 3 false = false := by
            cases hb : li.getD 3 false with
            | false => rfl
            | true =>
              have h1 := closed_of inv (j := 3) (d := 2) (by kernel_rfl) hb
              rw [getD_both hun] at h1
              cases h1
          exact ⟨_, rfl, rfl, hR.insert (G8 W.heap.size W.heap.size k 82 u [(C, be u Z)] (.slice (some ⟨g6, 0, none⟩) 1 1)) (fun _ _ => trivial) hun (by decide) (by decide) hmj (by decide) (dep_of (d := 0) (by kernel_rfl) hr) (.tmp 30) (.const (.int .i64 5)) (.const (.int .i64 83)) rfl rfl 5 83 rfl rfl r0 (by decide) (by decide) (by decide) (by omega) (by omega)⟩
        · obtain ⟨r0, -⟩ := F.slot (d := 0) (s := 30) hr (by kernel_rfl) (by omega) (by kernel_rfl)
          refine ⟨_, rfl, rfl, oper_plain (v 0) (w' := w) ?_ ⟨_, rfl, EC.of_below (Below.refl _ _), trivial, hR.move (dep_of (d := 0) (by kernel_rfl) hr) (by decide) (by decide)⟩⟩
          clear F hblk hR inv hr hun
          go_simp
        · obtain ⟨e1, e2⟩ := step_next hR (Below.refl _ _) 4 (by decide) (by decide) (by decide) (by decide) (.pointer (some ⟨W.heap.size, 0, none⟩))
          refine ⟨_, rfl, rfl, oper_plain (.pointer (some ⟨W.heap.size, 0, none⟩)) (w' := w) ?_ ⟨_, rfl, e1, rfl, e2⟩⟩
          clear F hblk hR inv hr hun e1 e2
          go_simp
        · obtain ⟨r0, g0⟩ := F.slot (d := 4) (s := 32) hr (by kernel_rfl) (by omega) (by kernel_rfl)
          have h1 : a.tmps.getD 32 undef = .pointer (some ⟨W.heap.size, 0, none⟩) := r0.trans g0
          have hc := hblk.cell 0
          simp only [List.getElem?_cons_zero] at hc
          obtain ⟨e1, e2⟩ := step_next hR (Below.refl _ _) 5 (by decide) (by decide) (by decide) (by decide) (.int .i64 k)
          refine ⟨_, rfl, rfl, oper_plain (.int .i64 k) (w' := w) ?_ ⟨_, rfl, e1, rfl, e2⟩⟩
          clear F hblk hR inv hr hun e1 e2 r0 g0
          go_simp
        · obtain ⟨r0, -⟩ := F.slot (d := 3) (s := 31) hr (by kernel_rfl) (by omega) (by kernel_rfl)
          obtain ⟨r1, g1⟩ := F.slot (d := 5) (s := 33) hr (by kernel_rfl) (by omega) (by kernel_rfl)
          have h2 : a.tmps.getD 33 undef = .int .i64 k := r1.trans g1
          have h3d : li.getD 3 false = true := dep_of (d := 3) (by kernel_rfl) hr
          obtain ⟨b, hvb, hlk⟩ := hR.look h3d (fun p hp => by
            have h1 := closed_of inv (j := 3) (d := 1) (by kernel_rfl) h3d
            have h2 := closed_of inv (j := 3) (d := 2) (by kernel_rfl) h3d
            simp only [List.mem_cons, List.mem_nil_iff, or_false] at hp
            rcases hp with rfl | rfl
            · exact h1
            · exact h2) (by decide) k 82 HKK.out (HLK8.out)
          have h1 : a.tmps.getD 31 undef = .map (some b) := r0.trans hvb
          obtain ⟨e1, e2⟩ := step_next hR (Below.refl _ _) 6 (by decide) (by decide) (by decide) (by decide) (.int .i64 82)
          refine ⟨_, rfl, rfl, oper_plain (.int .i64 82) (w' := w) ?_ ⟨_, rfl, e1, rfl, e2⟩⟩
          clear F hblk hR inv hr hun e1 e2 r0 r1 g1 hvb
          go_simp
        · obtain ⟨e1, e2⟩ := step_next hR (Below.refl _ _) 7 (by decide) (by decide) (by decide) (by decide) (.int .u64 u)
          refine ⟨_, rfl, rfl, oper_plain (.int .u64 u) (w' := w) ?_ ⟨_, rfl, e1, rfl, e2⟩⟩
          clear F hblk hR inv hr hun e1 e2
          go_simp
        · obtain ⟨r0, g0⟩ := F.slot (d := 7) (s := 35) hr (by kernel_rfl) (by omega) (by kernel_rfl)
          have h1 : a.tmps.getD 35 undef = .int .u64 u := r0.trans g0
          refine ⟨_, rfl, rfl, oper_call 98 #[.int .u64 u, .int .i64 1] ?_ ((big_calls2 w u 1 hu0 hu1 (by omega)).mono ?_)⟩
          · clear F hblk hR inv hr hun r0 g0
            go_simp
          · rintro e w' ⟨Ab, cb, rfl, hob, hb⟩
            obtain ⟨e1, e2⟩ := step_next hR hb 8 (by decide) (by decide) (by decide) (by decide) (.slice Ab 1 cb)
            exact ⟨_, rfl, _, rfl, e1, (OwnB.of_own hob (be_length _ _)).lower (Nat.le_trans HBD.out.size hR.bel.size), e2⟩
        · obtain ⟨r0, g0⟩ := F.slot (d := 6) (s := 34) hr (by kernel_rfl) (by omega) (by kernel_rfl)
          obtain ⟨r1, g1⟩ := F.slot (d := 8) (s := 36) hr (by kernel_rfl) (by omega) (by kernel_rfl)
          have h1 : a.tmps.getD 34 undef = .int .i64 82 := r0.trans g0
          have h2 : a.tmps.getD 36 undef = v 8 := r1
          obtain ⟨e1, e2⟩ := step_next hR (Below.refl _ _) 9 (by decide) (by decide) (by decide) (by decide) (.agg #[.int .i64 82, v 8])
          refine ⟨_, rfl, rfl, oper_plain (.agg #[.int .i64 82, v 8]) (w' := w) ?_ ⟨_, rfl, e1, ⟨v 8, rfl, (show OwnB _ _ _ _ from g1)⟩, e2⟩⟩
          obtain ⟨Ad, cd, hvd, _⟩ := g1
          rw [hvd] at h2 ⊢
          clear F hblk hR inv hr hun e1 e2 r0 g0 r1 hvd
          rw [Array.getD_eq_getD_getElem?] at h1 h2
          go_simp
        · obtain ⟨r0, g0⟩ := F.slot (d := 9) (s := 37) hr (by kernel_rfl) (by omega) (by kernel_rfl)
          obtain ⟨d, hd, hod⟩ := g0
          have hod' := hod
          obtain ⟨Ad, cd, hvd, _⟩ := hod'
          rw [be_length] at hvd
          rw [hvd] at hd hod
          have h1 : a.tmps.getD 37 undef = .agg #[.int .i64 82, .slice Ad 1 cd] := r0.trans hd
          have hwB : W.heap.size ≤ w.heap.size := Nat.le_trans HBD.out.size hR.bel.size
          obtain ⟨e1, e2⟩ := step_next hR ((Below.refl _ w).alloc (Nat.le_refl _) (.cells #[.int .i64 82, .slice Ad 1 cd] 118)) 10 (by decide) (by decide) (by decide) (by decide) (.slice (some ⟨w.heap.size, 0, none⟩) 1 1)
          refine ⟨_, rfl, rfl, oper_plain (.slice (some ⟨w.heap.size, 0, none⟩) 1 1) (w' := w.alloc (.cells #[.int .i64 82, .slice Ad 1 cd] 118)) ?_ ⟨_, rfl, e1, pcsW_one w _ (82, be u 1) _ hwB hod, e2⟩⟩
          clear F hblk hR inv hr hun e1 e2 r0 hd hod hvd
          rw [Array.getD_eq_getD_getElem?] at h1
          go_simp
        · obtain ⟨e1, e2⟩ := step_next hR (Below.refl _ _) 11 (by decide) (by decide) (by decide) (by decide) ((.slice (some ⟨g6, 0, none⟩) 1 1))
          refine ⟨_, rfl, rfl, oper_plain ((.slice (some ⟨g6, 0, none⟩) 1 1)) (w' := w) ?_ ⟨_, rfl, e1, ⟨rfl, HPD.out.below (hR.bel)⟩, e2⟩⟩
          clear F hblk hR inv hr hun e1 e2
          go_simp
      · intro v w hG hR
        have hbel := hR.bel
        simp only [List.take_succ_cons, List.take_zero, List.drop_succ_cons, List.drop_zero, List.map_cons, List.map_nil, puts, Nat.zero_add, Nat.reduceAdd]
        go_frame
        have h10 : PcsW w W.heap.size [(82, be u 1)] (v 10) := hG 10 (by omega)
        obtain ⟨h11, h12⟩ := hG 11 (by omega)
        have hvb := HVD.out.below hbel HVD.out.lt
        have hbw : Below W.heap.size W w := HBD.out.trans (hbel.mono HBD.out.size)
        rw [h11]
        have H10 := Lib.hid h10
        have H12 := Lib.hid h12
        have HVB := Lib.hid hvb
        have HBW := Lib.hid hbw
        clear hG hR h10 h12 hvb hbw hbel
        go_upto_region 9 with (
            (at_builtin)
            go_must (
              (refine wpList_append_P rfl (.tmp 38) (.tmp 39) rfl rfl rfl H10.out H12.out HBW.out.size (by simp) ?_)
              intro A9 c9 w9 HPW9 HGR9
              obtain ⟨Ax, cx, Sx, hxv, hxs, hxo, hxd⟩ := H10.out
              have hv9 := HVB.out.grown HGR9.out (fun e => own_neH hxo HVB.out (by decide) e.symm)
              have hb9 : Below W.heap.size W w9 := HBW.out.grown HGR9.out HBW.out.size (fun j hj => (hxo.lt j hj).1)
              have HV9 := Lib.hid hv9
              have HB9 := Lib.hid hb9
              have hz9 := hv9.lt
              clear hxv hxs hxo hxd hv9 hb9 HGR9 H10 H12 HVB HBW))
        have y9 := HV9.out.cell 0
        simp only [List.getElem?_cons_zero] at y9
        by_cases h0 : u = 0
        · have hd0 : (u == 0) = true := by rw [h0]; rfl
          go_upto_region 15 with (first
              | ((with_reducible refine gate_makeMap rfl ?_)
                 go_must (
                   (refine wpList_makeMap_i (w0 := w9) rfl 158 rfl (Below.refl _ _) (Nat.le_refl _) ?_)
                   intro wm mb HM))
              | ((with_reducible refine gate_insert rfl ?_)
                 go_must (
                   (have HM0 := HM)
                   clear HM
                   refine wpList_insert_i rfl _ _ _ 158 rfl Tryd.underlying158 _ _ rfl rfl rfl HM0 (by simp only [List.length_cons, List.length_nil]; omega) (by omega) (by omega) (by omega) (by omega) ?_
                   intro wm HM
                   clear HM0
                   have hvm := HV9.out.below HM.2.1 HV9.out.lt
                   have ym := hvm.cell 0
                   simp only [List.getElem?_cons_zero] at ym
                   have HVM := Lib.hid hvm
                   have HBM : Hid (Below W.heap.size W wm) := Lib.hid (HB9.out.trans (HM.2.1.mono HB9.out.size))
                   have HPM := Lib.hid (HPW9.out.below HM.2.1)
                   try (have hlk := run_look HM k HKK.out.1 HKK.out.2 67 HLK10.out)
                   clear hvm))
              | ((at_builtin)
                 go_must (
                   (have hba : Below wm.heap.size wm (wm.alloc (.cells #[.int .i64 67, .slice none 0 0] 118)) := (Below.refl _ wm).alloc (Nat.le_refl _) _)
                   have hpx := pcsW_one wm W.heap.size (67, []) _ HBM.out.size (OwnB.nil _ _)
                   have hown9 := hpx
                   obtain ⟨Ax, cx, Sx, hxv, hxs, hxo, hxd⟩ := hown9
                   refine wpList_append_P rfl (.tmp 49) (.tmp 50) rfl rfl rfl hpx (HPM.out.below hba) (Nat.le_trans HBM.out.size hba.size) (by simp) ?_
                   intro Aa ca wa HPWa HGRa
                   have hba2 : Below W.heap.size W wa := (HBM.out.trans (hba.mono HBM.out.size)).grown HGRa.out (Nat.le_trans HBM.out.size hba.size) (fun j hj => (hxo.lt j hj).1)
                   have HBa := Lib.hid hba2
                   clear hba hpx hxv hxs hxo hxd hba2 HGRa)))
          go_wp2
          go_ret
          exact ⟨_, rfl, by (try rw [if_pos h0, if_pos hlt]); (have h9 := HPWa.out); rw [h0] at h9; exact h9, HBa.out⟩
        · have hd0 : (u == 0) = false := by rw [beq_eq_false_iff_ne]; exact h0
          go_wp2
          go_ret
          exact ⟨_, rfl, by (try rw [if_neg h0, if_pos hlt]); exact HPW9.out, HB9.out⟩
    · have hd : decide (u < 256) = false := decide_eq_false hlt
      have hd0 : (u == 0) = false := by rw [beq_eq_false_iff_ne]; omega
      go_wp2
      go_ret
      exact ⟨_, rfl, by (try rw [if_neg (show ¬ u = 0 by omega), if_neg hlt]); (have h9 := HP4.out); rw [HW4.out, ← HG6.out] at h9; exact h9, by rw [← HW4.out]; exact HB4.out⟩
end Go.Proofs.YtjjhckbidcdkcaaDoor

namespace Go.Proofs.YtjjhckbidcdkcaaDoor
open Go.RowKit
set_option linter.unusedVariables false

set_option maxHeartbeats 4000000 in
set_option maxRecDepth 3000 in
theorem numbered_5 (W : World) (k u o : Int) (s : ByteArray) (n0 n1 c0 c1 : Nat) (A0 A1 : Option Addr) (hu0 : 0 ≤ u) (hu1 : u ≤ 18446744073709551615) (hk : k = 5) (Z : Nat) (hZ : fsz k = (Z : Int)) (hZ8 : Z ≤ 8) (C : Int) (hC : cod k = C) :
    Calls Tryd.prog 90 #[.agg #[.int .i64 k, .int .u64 u, .string s, .slice A0 n0 c0, .int .i64 o, .slice A1 n1 c1]] W fun e W' => ∃ v, e = .returned v ∧ PcsW W' W.heap.size ((if u = 0 then [(68, [])] else []) ++ (if u < 256 then [(83, be u 1)] else []) ++ [(C, be u Z)]) v ∧ Below W.heap.size W W' := by
  obtain ⟨w1, hw1⟩ : ∃ w1, w1 = W.alloc (.cells #[.int .i64 k, .int .u64 u, .string s, .slice A0 n0 c0, .int .i64 o, .slice A1 n1 c1] 25) := ⟨_, rfl⟩
  have hp1 : Blk w1 W.heap.size 25 [.int .i64 k, .int .u64 u, .string s, .slice A0 n0 c0, .int .i64 o, .slice A1 n1 c1] := by rw [hw1]; exact Blk.new W 25 [.int .i64 k, .int .u64 u, .string s, .slice A0 n0 c0, .int .i64 o, .slice A1 n1 c1]
  have hb1 : Below W.heap.size W w1 := by rw [hw1]; exact (Below.refl _ W).alloc (Nat.le_refl _) _
  have v0 := hp1.cell 0
  have v1 := hp1.cell 1
  simp only [List.getElem?_cons_zero, List.getElem?_cons_succ] at v0 v1
  have hcc := fun w => coded_calls w k (by omega)
  rw [hC] at hcc
  have hxx := fun w => fixedSize_calls w k (by omega)
  rw [hZ] at hxx
  have HKK : Hid (-9223372036854775808 ≤ k ∧ k ≤ 9223372036854775807) := Lib.hid (by omega)
  have HLK8 : Hid (look [(4, 82), (5, 83)] k = 83) := Lib.hid (by rw [hk]; rfl)
  have HLK10 : Hid (look [(5, 68), (4, 67)] k = 68) := Lib.hid (by rw [hk]; rfl)
  have e4 : (k == 4) = false := by rw [hk]; rfl
  have e5 : (k == 5) = true := by rw [hk]; rfl
  have e8 : (k == 8) = false := by rw [hk]; rfl
  have e9 : (k == 9) = false := by rw [hk]; rfl
  have HW1 := Lib.hid hw1
  have HP1 := Lib.hid hp1
  have HB1 := Lib.hid hb1
  have HCC := Lib.hid hcc
  have HXX := Lib.hid hxx
  clear hw1 hp1 hb1 hcc hxx hk
  go_enter Tryd.func90, Tryd.ntmps90
  go_upto_region 1 with (fail)
  rw [← HW1.out]
  go_quiet (fail)
  go_wp2
  refine region_front 10 (GF W.heap.size W.heap.size k C u Z) (fun _ _ w => Below W.heap.size W w ∧ Blk w W.heap.size 25 [.int .i64 k, .int .u64 u, .string s, .slice A0 n0 c0, .int .i64 o, .slice A1 n1 c1]) (fun w w' => Below w.heap.size w w') (by kernel_rfl) (by kernel_rfl) (by kernel_rfl) (by kernel_rfl) (by decide) (by kernel_rfl) (by kernel_rfl) (GF_keep _ _ _ _ _ _) ⟨below_drewN HB1.out (nq + 1), HP1.out.drewN (nq + 1)⟩ ?_ ?_
  · intro i hi li v a w inv F hr
    obtain ⟨hbel, hblk⟩ := F.res
    have t1 := F.oldv (s := 1) (by kernel_rfl)
    have t3 := F.oldv (s := 3) (by kernel_rfl)
    rcases (show i = 0 ∨ i = 1 ∨ i = 2 ∨ i = 3 ∨ i = 4 ∨ i = 5 ∨ i = 6 ∨ i = 7 ∨ i = 8 ∨ i = 9 by omega) with rfl | rfl | rfl | rfl | rfl | rfl | rfl | rfl | rfl | rfl
    · refine ⟨_, rfl, rfl, oper_plain (.pointer (some ⟨W.heap.size, 0, none⟩)) (w' := w) ?_ ⟨_, rfl, Below.refl _ _, rfl, hbel, hblk⟩⟩
      have h1 : a.tmps.getD 1 undef = .pointer (some ⟨W.heap.size, 0, none⟩) := t1
      clear F hblk hbel
      go_simp
    · obtain ⟨r0, g0⟩ := F.slot (d := 0) (s := 12) hr (by kernel_rfl) (by omega) (by kernel_rfl)
      refine ⟨_, rfl, rfl, oper_plain (.int .i64 k) (w' := w) ?_ ⟨_, rfl, Below.refl _ _, rfl, hbel, hblk⟩⟩
      have h1 : a.tmps.getD 12 undef = .pointer (some ⟨W.heap.size, 0, none⟩) := r0.trans g0
      have hc := hblk.cell 0
      simp only [List.getElem?_cons_zero] at hc
      clear F hblk hbel r0 g0
      go_simp
    · obtain ⟨r0, g0⟩ := F.slot (d := 1) (s := 13) hr (by kernel_rfl) (by omega) (by kernel_rfl)
      have h1 : a.tmps.getD 13 undef = .int .i64 k := r0.trans g0
      refine ⟨_, rfl, rfl, oper_call 87 #[.int .i64 k] ?_ ((HCC.out w).mono ?_)⟩
      · clear F hblk hbel r0 g0
        go_simp
      · rintro e w' ⟨rfl, hb⟩
        exact ⟨_, rfl, _, rfl, hb, rfl, hbel.trans (hb.mono hbel.size), hblk.below hb hblk.lt⟩
    · have h1 : a.tmps.getD 3 undef = .int .u64 u := t3
      refine ⟨_, rfl, rfl, oper_plain (.int .u64 u) (w' := w) ?_ ⟨_, rfl, Below.refl _ _, rfl, hbel, hblk⟩⟩
      clear F hblk hbel
      go_simp
    · refine ⟨_, rfl, rfl, oper_plain (.pointer (some ⟨W.heap.size, 0, none⟩)) (w' := w) ?_ ⟨_, rfl, Below.refl _ _, rfl, hbel, hblk⟩⟩
      have h1 : a.tmps.getD 1 undef = .pointer (some ⟨W.heap.size, 0, none⟩) := t1
      clear F hblk hbel
      go_simp
    · obtain ⟨r0, g0⟩ := F.slot (d := 4) (s := 16) hr (by kernel_rfl) (by omega) (by kernel_rfl)
      refine ⟨_, rfl, rfl, oper_plain (.int .i64 k) (w' := w) ?_ ⟨_, rfl, Below.refl _ _, rfl, hbel, hblk⟩⟩
      have h1 : a.tmps.getD 16 undef = .pointer (some ⟨W.heap.size, 0, none⟩) := r0.trans g0
      have hc := hblk.cell 0
      simp only [List.getElem?_cons_zero] at hc
      clear F hblk hbel r0 g0
      go_simp
    · obtain ⟨r0, g0⟩ := F.slot (d := 5) (s := 17) hr (by kernel_rfl) (by omega) (by kernel_rfl)
      have h1 : a.tmps.getD 17 undef = .int .i64 k := r0.trans g0
      refine ⟨_, rfl, rfl, oper_call 95 #[.int .i64 k] ?_ ((HXX.out w).mono ?_)⟩
      · clear F hblk hbel r0 g0
        go_simp
      · rintro e w' ⟨rfl, hb⟩
        exact ⟨_, rfl, _, rfl, hb, rfl, hbel.trans (hb.mono hbel.size), hblk.below hb hblk.lt⟩
    · obtain ⟨r0, g0⟩ := F.slot (d := 3) (s := 15) hr (by kernel_rfl) (by omega) (by kernel_rfl)
      obtain ⟨r1, g1⟩ := F.slot (d := 6) (s := 18) hr (by kernel_rfl) (by omega) (by kernel_rfl)
      have h1 : a.tmps.getD 15 undef = .int .u64 u := r0.trans g0
      have h2 : a.tmps.getD 18 undef = .int .i64 (Z : Int) := r1.trans g1
      refine ⟨_, rfl, rfl, oper_call 98 #[.int .u64 u, .int .i64 Z] ?_ ((big_calls2 w u Z hu0 hu1 hZ8).mono ?_)⟩
      · clear F hblk hbel r0 g0 r1 g1
        go_simp
      · rintro e w' ⟨Ab, cb, rfl, hob, hb⟩
        refine ⟨_, rfl, _, rfl, hb, ?_, hbel.trans (hb.mono hbel.size), hblk.below hb hblk.lt⟩
        exact (OwnB.of_own hob (be_length _ _)).lower hbel.size
    · obtain ⟨r0, g0⟩ := F.slot (d := 2) (s := 14) hr (by kernel_rfl) (by omega) (by kernel_rfl)
      obtain ⟨r1, g1⟩ := F.slot (d := 7) (s := 19) hr (by kernel_rfl) (by omega) (by kernel_rfl)
      have h1 : a.tmps.getD 14 undef = .int .i64 C := r0.trans g0
      have h2 : a.tmps.getD 19 undef = v 7 := r1
      refine ⟨_, rfl, rfl, oper_plain (.agg #[.int .i64 C, v 7]) (w' := w) ?_ ⟨_, rfl, Below.refl _ _, ⟨v 7, rfl, (show OwnB _ _ _ _ from g1)⟩, hbel, hblk⟩⟩
      obtain ⟨Ad, cd, hvd, _⟩ := g1
      rw [hvd] at h2 ⊢
      clear F hblk hbel r0 g0 r1 hvd
      rw [Array.getD_eq_getD_getElem?] at h1 h2
      go_simp
    · refine ⟨_, rfl, rfl, oper_plain (.pointer (some ⟨w.heap.size, 0, none⟩)) (w' := w.alloc (.cells #[.int .i64 0, .slice none 0 0] 118)) ?_ ⟨_, rfl, (Below.refl _ w).alloc (Nat.le_refl _) _, ⟨_, rfl, hbel.size, Blk.new w 118 [.int .i64 0, .slice none 0 0]⟩, hbel.alloc hbel.size _, hblk.alloc _⟩⟩
      clear F hblk hbel
      go_simp
  · intro v w hG hR
    obtain ⟨hbel, hblk⟩ := hR
    simp only [List.take_succ_cons, List.take_zero, List.drop_succ_cons, List.drop_zero, List.map_cons, List.map_nil, puts, Nat.zero_add, Nat.reduceAdd]
    go_frame
    obtain ⟨d, hx8, ho8⟩ := hG 8 (by omega)
    obtain ⟨p, hx9, hpB, hp9⟩ := hG 9 (by omega)
    have ho9 := ho8
    obtain ⟨Ad, cd, hvd, hrd⟩ := ho8
    rw [be_length] at hvd
    subst hvd
    rw [hx8, hx9]
    have ho8 := ho9
    clear ho9 hrd
    have q0 := hp9.cell 0
    have q1 := hp9.cell 1
    have qz := hp9.frozen 0
    have qz1 := hp9.frozen 1
    simp only [List.getElem?_cons_zero, List.getElem?_cons_succ] at q0 q1
    have HQ := Lib.hid hp9
    have HO := Lib.hid ho8
    have HBL := Lib.hid hblk
    have HBE := Lib.hid hbel
    clear hG hx8 hx9 hp9 ho8 hblk hbel HCC HXX v0 v1
    go_upto_region 3 with (fail)
    obtain ⟨w3, hw3⟩ : ∃ w3, w3 = (w.setCell ⟨p, 0, none⟩ (.int .i64 C)).setCell ⟨p, 1, none⟩ (.slice Ad Z cd) := ⟨_, rfl⟩
    rw [← hw3]
    have hne : p ≠ W.heap.size := HQ.out.ne_ HBL.out (by decide)
    have hg3 : w.grownBy w3 (some p) := by rw [hw3]; exact grownV_trans (grown_set w p 0 _) (grown_set _ p 1 _)
    have hp3 : Blk w3 p 118 [.int .i64 C, .slice Ad Z cd] := by rw [hw3]; exact (HQ.out.set_ 0 _).set_ 1 _
    have hv3 := HBL.out.grown hg3 (fun e => hne (by injection e with e; exact e.symm))
    have ho3 := HO.out.keptg HQ.out (by decide) hg3
    have hb3 : Below W.heap.size W w3 := HBE.out.grown hg3 HBE.out.size (fun j hj => by injection hj with hj; omega)
    have x0 := hp3.cell 0
    have x1 := hp3.cell 1
    have y0 := hv3.cell 0
    simp only [List.getElem?_cons_zero, List.getElem?_cons_succ] at x0 x1 y0
    have hz3 : W.heap.size < w3.heap.size := hv3.lt
    have HP3 := Lib.hid hp3
    have HV3 := Lib.hid hv3
    have HO3 := Lib.hid ho3
    have HB3 := Lib.hid hb3
    clear hw3 hg3 hp3 hv3 ho3 hb3 q0 q1 qz qz1 HQ HO HBL HBE
    obtain ⟨w4, hw4⟩ : ∃ w4, w4 = w3.alloc (.cells #[.int .i64 C, .slice Ad Z cd] 118) := ⟨_, rfl⟩
    obtain ⟨g6, hg6⟩ : ∃ g6, w3.heap.size = g6 := ⟨_, rfl⟩
    have hp4 : PcsW w4 W.heap.size [(C, be u Z)] (.slice (some ⟨g6, 0, none⟩) 1 1) := by rw [hw4, ← hg6]; exact pcsW_one _ _ (C, be u Z) _ HB3.out.size HO3.out
    have hb4 : Below W.heap.size W w4 := by rw [hw4]; exact HB3.out.alloc HB3.out.size _
    have hv4 : Blk w4 W.heap.size 25 [.int .i64 k, .int .u64 u, .string s, .slice A0 n0 c0, .int .i64 o, .slice A1 n1 c1] := by rw [hw4]; exact HV3.out.alloc _
    have hz4 := hv4.lt
    have y4 := hv4.cell 0
    simp only [List.getElem?_cons_zero] at y4
    have HP4 := Lib.hid hp4
    have HB4 := Lib.hid hb4
    have HV4 := Lib.hid hv4
    have HW4 := Lib.hid hw4
    have HG6 := Lib.hid hg6
    clear hp4 hb4 hv4 hw4 hg6
    by_cases hlt : u < 256
    · have hd : decide (u < 256) = true := decide_eq_true hlt
      go_upto_region 8 with (fail)
      rw [← HW4.out, HG6.out]
      clear x0 x1 y0 hz3 HP3 HV3 HO3 HB3 hpB hne
      have HVD : Hid (Blk w4.drew W.heap.size 25 [.int .i64 k, .int .u64 u, .string s, .slice A0 n0 c0, .int .i64 o, .slice A1 n1 c1]) := Lib.hid ((HV4.out).drewN 1)
      have HBD : Hid (Below W.heap.size W w4.drew) := Lib.hid (below_drewN (HB4.out) 1)
      have HPD : Hid (PcsW w4.drew W.heap.size [(C, be u Z)] (.slice (some ⟨g6, 0, none⟩) 1 1)) := Lib.hid (PcsW.below (HP4.out) (Below.refl _ _).drew)
      refine region_front 12 (G8 W.heap.size W.heap.size k 83 u [(C, be u Z)] (.slice (some ⟨g6, 0, none⟩) 1 1)) (fun l v w => MpR w4.drew [(1, 4, 82), (2, 5, 83)] 3 l v w) EC (by kernel_rfl) (by kernel_rfl) (by kernel_rfl) (by kernel_rfl) (by decide) (by kernel_rfl) (by kernel_rfl) (G8_keep _ _ _ _ _ _ _) (MpR.start _ _ _ _ _) ?_ ?_
      · intro i hi li v a w inv F hr
        have hR := F.res
        have hun := (mem_ready.1 hr).1
        have hblk := HVD.out.below hR.bel HVD.out.lt
        have t1 : a.tmps.getD 1 undef = .pointer (some ⟨W.heap.size, 0, none⟩) := F.oldv (s := 1) (by kernel_rfl)
        have t3 : a.tmps.getD 3 undef = .int .u64 u := F.oldv (s := 3) (by kernel_rfl)
        have t6 : a.tmps.getD 6 undef = (.slice (some ⟨g6, 0, none⟩) 1 1) := F.oldv (s := 6) (by kernel_rfl)
        rcases (show i = 0 ∨ i = 1 ∨ i = 2 ∨ i = 3 ∨ i = 4 ∨ i = 5 ∨ i = 6 ∨ i = 7 ∨ i = 8 ∨ i = 9 ∨ i = 10 ∨ i = 11 by omega) with rfl | rfl | rfl | rfl | rfl | rfl | rfl | rfl | rfl | rfl | rfl | rfl
        · exact ⟨_, rfl, rfl, hR.make (G8 W.heap.size W.heap.size k 83 u [(C, be u Z)] (.slice (some ⟨g6, 0, none⟩) 1 1)) (fun _ _ => trivial) hun (by decide) (by decide) 158 rfl⟩
        · obtain ⟨r0, -⟩ := F.slot (d := 0) (s := 30) hr (by kernel_rfl) (by omega) (by kernel_rfl)
          have hmj : li.getD 3 false = false := by
            cases hb : li.getD 3 false with
            | false => rfl
            | true =>
              have h1 := closed_of inv (j := 3) (d := 1) (by kernel_rfl) hb
              rw [getD_both hun] at h1
              cases h1
          exact ⟨_, rfl, rfl, hR.insert (G8 W.heap.size W.heap.size k 83 u [(C, be u Z)] (.slice (some ⟨g6, 0, none⟩) 1 1)) (fun _ _ => trivial) hun (by decide) (by decide) hmj (by decide) (dep_of (d := 0) (by kernel_rfl) hr) (.tmp 30) (.const (.int .i64 4)) (.const (.int .i64 82)) rfl rfl 4 82 rfl rfl r0 (by decide) (by decide) (by decide) (by omega) (by omega)⟩
        · obtain ⟨r0, -⟩ := F.slot (d := 0) (s := 30) hr (by kernel_rfl) (by omega) (by kernel_rfl)
          have hmj : li.getD 3 false = false := by
            cases hb : li.getD 3 false with
            | false => rfl
            | true =>
              have h1 := closed_of inv (j := 3) (d := 2) (by kernel_rfl) hb
              rw [getD_both hun] at h1
              cases h1
          exact ⟨_, rfl, rfl, hR.insert (G8 W.heap.size W.heap.size k 83 u [(C, be u Z)] (.slice (some ⟨g6, 0, none⟩) 1 1)) (fun _ _ => trivial) hun (by decide) (by decide) hmj (by decide) (dep_of (d := 0) (by kernel_rfl) hr) (.tmp 30) (.const (.int .i64 5)) (.const (.int .i64 83)) rfl rfl 5 83 rfl rfl r0 (by decide) (by decide) (by decide) (by omega) (by omega)⟩
        · obtain ⟨r0, -⟩ := F.slot (d := 0) (s := 30) hr (by kernel_rfl) (by omega) (by kernel_rfl)
          refine ⟨_, rfl, rfl, oper_plain (v 0) (w' := w) ?_ ⟨_, rfl, EC.of_below (Below.refl _ _), trivial, hR.move (dep_of (d := 0) (by kernel_rfl) hr) (by decide) (by decide)⟩⟩
          clear F hblk hR inv hr hun
          go_simp
        · obtain ⟨e1, e2⟩ := step_next hR (Below.refl _ _) 4 (by decide) (by decide) (by decide) (by decide) (.pointer (some ⟨W.heap.size, 0, none⟩))
          refine ⟨_, rfl, rfl, oper_plain (.pointer (some ⟨W.heap.size, 0, none⟩)) (w' := w) ?_ ⟨_, rfl, e1, rfl, e2⟩⟩
          clear F hblk hR inv hr hun e1 e2
          go_simp
        · obtain ⟨r0, g0⟩ := F.slot (d := 4) (s := 32) hr (by kernel_rfl) (by omega) (by kernel_rfl)
          have h1 : a.tmps.getD 32 undef = .pointer (some ⟨W.heap.size, 0, none⟩) := r0.trans g0
          have hc := hblk.cell 0
          simp only [List.getElem?_cons_zero] at hc
          obtain ⟨e1, e2⟩ := step_next hR (Below.refl _ _) 5 (by decide) (by decide) (by decide) (by decide) (.int .i64 k)
          refine ⟨_, rfl, rfl, oper_plain (.int .i64 k) (w' := w) ?_ ⟨_, rfl, e1, rfl, e2⟩⟩
          clear F hblk hR inv hr hun e1 e2 r0 g0
          go_simp
        · obtain ⟨r0, -⟩ := F.slot (d := 3) (s := 31) hr (by kernel_rfl) (by omega) (by kernel_rfl)
          obtain ⟨r1, g1⟩ := F.slot (d := 5) (s := 33) hr (by kernel_rfl) (by omega) (by kernel_rfl)
          have h2 : a.tmps.getD 33 undef = .int .i64 k := r1.trans g1
          have h3d : li.getD 3 false = true := dep_of (d := 3) (by kernel_rfl) hr
          obtain ⟨b, hvb, hlk⟩ := hR.look h3d (fun p hp => by
            have h1 := closed_of inv (j := 3) (d := 1) (by kernel_rfl) h3d
            have h2 := closed_of inv (j := 3) (d := 2) (by kernel_rfl) h3d
            simp only [List.mem_cons, List.mem_nil_iff, or_false] at hp
            rcases hp with rfl | rfl
            · exact h1
            · exact h2) (by decide) k 83 HKK.out (HLK8.out)
          have h1 : a.tmps.getD 31 undef = .map (some b) := r0.trans hvb
          obtain ⟨e1, e2⟩ := step_next hR (Below.refl _ _) 6 (by decide) (by decide) (by decide) (by decide) (.int .i64 83)
          refine ⟨_, rfl, rfl, oper_plain (.int .i64 83) (w' := w) ?_ ⟨_, rfl, e1, rfl, e2⟩⟩
          clear F hblk hR inv hr hun e1 e2 r0 r1 g1 hvb
          go_simp
        · obtain ⟨e1, e2⟩ := step_next hR (Below.refl _ _) 7 (by decide) (by decide) (by decide) (by decide) (.int .u64 u)
          refine ⟨_, rfl, rfl, oper_plain (.int .u64 u) (w' := w) ?_ ⟨_, rfl, e1, rfl, e2⟩⟩
          clear F hblk hR inv hr hun e1 e2
          go_simp
        · obtain ⟨r0, g0⟩ := F.slot (d := 7) (s := 35) hr (by kernel_rfl) (by omega) (by kernel_rfl)
          have h1 : a.tmps.getD 35 undef = .int .u64 u := r0.trans g0
          refine ⟨_, rfl, rfl, oper_call 98 #[.int .u64 u, .int .i64 1] ?_ ((big_calls2 w u 1 hu0 hu1 (by omega)).mono ?_)⟩
          · clear F hblk hR inv hr hun r0 g0
            go_simp
          · rintro e w' ⟨Ab, cb, rfl, hob, hb⟩
            obtain ⟨e1, e2⟩ := step_next hR hb 8 (by decide) (by decide) (by decide) (by decide) (.slice Ab 1 cb)
            exact ⟨_, rfl, _, rfl, e1, (OwnB.of_own hob (be_length _ _)).lower (Nat.le_trans HBD.out.size hR.bel.size), e2⟩
        · obtain ⟨r0, g0⟩ := F.slot (d := 6) (s := 34) hr (by kernel_rfl) (by omega) (by kernel_rfl)
          obtain ⟨r1, g1⟩ := F.slot (d := 8) (s := 36) hr (by kernel_rfl) (by omega) (by kernel_rfl)
          have h1 : a.tmps.getD 34 undef = .int .i64 83 := r0.trans g0
          have h2 : a.tmps.getD 36 undef = v 8 := r1
          obtain ⟨e1, e2⟩ := step_next hR (Below.refl _ _) 9 (by decide) (by decide) (by decide) (by decide) (.agg #[.int .i64 83, v 8])
          refine ⟨_, rfl, rfl, oper_plain (.agg #[.int .i64 83, v 8]) (w' := w) ?_ ⟨_, rfl, e1, ⟨v 8, rfl, (show OwnB _ _ _ _ from g1)⟩, e2⟩⟩
          obtain ⟨Ad, cd, hvd, _⟩ := g1
          rw [hvd] at h2 ⊢
          clear F hblk hR inv hr hun e1 e2 r0 g0 r1 hvd
          rw [Array.getD_eq_getD_getElem?] at h1 h2
          go_simp
        · obtain ⟨r0, g0⟩ := F.slot (d := 9) (s := 37) hr (by kernel_rfl) (by omega) (by kernel_rfl)
          obtain ⟨d, hd, hod⟩ := g0
          have hod' := hod
          obtain ⟨Ad, cd, hvd, _⟩ := hod'
          rw [be_length] at hvd
          rw [hvd] at hd hod
          have h1 : a.tmps.getD 37 undef = .agg #[.int .i64 83, .slice Ad 1 cd] := r0.trans hd
          have hwB : W.heap.size ≤ w.heap.size := Nat.le_trans HBD.out.size hR.bel.size
          obtain ⟨e1, e2⟩ := step_next hR ((Below.refl _ w).alloc (Nat.le_refl _) (.cells #[.int .i64 83, .slice Ad 1 cd] 118)) 10 (by decide) (by decide) (by decide) (by decide) (.slice (some ⟨w.heap.size, 0, none⟩) 1 1)
          refine ⟨_, rfl, rfl, oper_plain (.slice (some ⟨w.heap.size, 0, none⟩) 1 1) (w' := w.alloc (.cells #[.int .i64 83, .slice Ad 1 cd] 118)) ?_ ⟨_, rfl, e1, pcsW_one w _ (83, be u 1) _ hwB hod, e2⟩⟩
          clear F hblk hR inv hr hun e1 e2 r0 hd hod hvd
          rw [Array.getD_eq_getD_getElem?] at h1
          go_simp
        · obtain ⟨e1, e2⟩ := step_next hR (Below.refl _ _) 11 (by decide) (by decide) (by decide) (by decide) ((.slice (some ⟨g6, 0, none⟩) 1 1))
          refine ⟨_, rfl, rfl, oper_plain ((.slice (some ⟨g6, 0, none⟩) 1 1)) (w' := w) ?_ ⟨_, rfl, e1, ⟨rfl, HPD.out.below (hR.bel)⟩, e2⟩⟩
          clear F hblk hR inv hr hun e1 e2
          go_simp
      · intro v w hG hR
        have hbel := hR.bel
        simp only [List.take_succ_cons, List.take_zero, List.drop_succ_cons, List.drop_zero, List.map_cons, List.map_nil, puts, Nat.zero_add, Nat.reduceAdd]
        go_frame
        have h10 : PcsW w W.heap.size [(83, be u 1)] (v 10) := hG 10 (by omega)
        obtain ⟨h11, h12⟩ := hG 11 (by omega)
        have hvb := HVD.out.below hbel HVD.out.lt
        have hbw : Below W.heap.size W w := HBD.out.trans (hbel.mono HBD.out.size)
        rw [h11]
        have H10 := Lib.hid h10
        have H12 := Lib.hid h12
        have HVB := Lib.hid hvb
        have HBW := Lib.hid hbw
        clear hG hR h10 h12 hvb hbw hbel
        go_upto_region 9 with (
            (at_builtin)
            go_must (
              (refine wpList_append_P rfl (.tmp 38) (.tmp 39) rfl rfl rfl H10.out H12.out HBW.out.size (by simp) ?_)
              intro A9 c9 w9 HPW9 HGR9
              obtain ⟨Ax, cx, Sx, hxv, hxs, hxo, hxd⟩ := H10.out
              have hv9 := HVB.out.grown HGR9.out (fun e => own_neH hxo HVB.out (by decide) e.symm)
              have hb9 : Below W.heap.size W w9 := HBW.out.grown HGR9.out HBW.out.size (fun j hj => (hxo.lt j hj).1)
              have HV9 := Lib.hid hv9
              have HB9 := Lib.hid hb9
              have hz9 := hv9.lt
              clear hxv hxs hxo hxd hv9 hb9 HGR9 H10 H12 HVB HBW))
        have y9 := HV9.out.cell 0
        simp only [List.getElem?_cons_zero] at y9
        by_cases h0 : u = 0
        · have hd0 : (u == 0) = true := by rw [h0]; rfl
          go_upto_region 15 with (first
              | ((with_reducible refine gate_makeMap rfl ?_)
                 go_must (
                   (refine wpList_makeMap_i (w0 := w9) rfl 158 rfl (Below.refl _ _) (Nat.le_refl _) ?_)
                   intro wm mb HM))
              | ((with_reducible refine gate_insert rfl ?_)
                 go_must (
                   (have HM0 := HM)
                   clear HM
                   refine wpList_insert_i rfl _ _ _ 158 rfl Tryd.underlying158 _ _ rfl rfl rfl HM0 (by simp only [List.length_cons, List.length_nil]; omega) (by omega) (by omega) (by omega) (by omega) ?_
                   intro wm HM
                   clear HM0
                   have hvm := HV9.out.below HM.2.1 HV9.out.lt
                   have ym := hvm.cell 0
                   simp only [List.getElem?_cons_zero] at ym
                   have HVM := Lib.hid hvm
                   have HBM : Hid (Below W.heap.size W wm) := Lib.hid (HB9.out.trans (HM.2.1.mono HB9.out.size))
                   have HPM := Lib.hid (HPW9.out.below HM.2.1)
                   try (have hlk := run_look HM k HKK.out.1 HKK.out.2 68 HLK10.out)
                   clear hvm))
              | ((at_builtin)
                 go_must (
                   (have hba : Below wm.heap.size wm (wm.alloc (.cells #[.int .i64 68, .slice none 0 0] 118)) := (Below.refl _ wm).alloc (Nat.le_refl _) _)
                   have hpx := pcsW_one wm W.heap.size (68, []) _ HBM.out.size (OwnB.nil _ _)
                   have hown9 := hpx
                   obtain ⟨Ax, cx, Sx, hxv, hxs, hxo, hxd⟩ := hown9
                   refine wpList_append_P rfl (.tmp 49) (.tmp 50) rfl rfl rfl hpx (HPM.out.below hba) (Nat.le_trans HBM.out.size hba.size) (by simp) ?_
                   intro Aa ca wa HPWa HGRa
                   have hba2 : Below W.heap.size W wa := (HBM.out.trans (hba.mono HBM.out.size)).grown HGRa.out (Nat.le_trans HBM.out.size hba.size) (fun j hj => (hxo.lt j hj).1)
                   have HBa := Lib.hid hba2
                   clear hba hpx hxv hxs hxo hxd hba2 HGRa)))
          go_wp2
          go_ret
          exact ⟨_, rfl, by (try rw [if_pos h0, if_pos hlt]); (have h9 := HPWa.out); rw [h0] at h9; exact h9, HBa.out⟩
        · have hd0 : (u == 0) = false := by rw [beq_eq_false_iff_ne]; exact h0
          go_wp2
          go_ret
          exact ⟨_, rfl, by (try rw [if_neg h0, if_pos hlt]); exact HPW9.out, HB9.out⟩
    · have hd : decide (u < 256) = false := decide_eq_false hlt
      have hd0 : (u == 0) = false := by rw [beq_eq_false_iff_ne]; omega
      go_wp2
      go_ret
      exact ⟨_, rfl, by (try rw [if_neg (show ¬ u = 0 by omega), if_neg hlt]); (have h9 := HP4.out); rw [HW4.out, ← HG6.out] at h9; exact h9, by rw [← HW4.out]; exact HB4.out⟩
end Go.Proofs.YtjjhckbidcdkcaaDoor

namespace Go.Proofs.YtjjhckbidcdkcaaDoor
open Go.RowKit
set_option linter.unusedVariables false

set_option maxHeartbeats 4000000 in
set_option maxRecDepth 3000 in
theorem numbered_8 (W : World) (k u o : Int) (s : ByteArray) (n0 n1 c0 c1 : Nat) (A0 A1 : Option Addr) (hu0 : 0 ≤ u) (hu1 : u ≤ 18446744073709551615) (hk : k = 8) (Z : Nat) (hZ : fsz k = (Z : Int)) (hZ8 : Z ≤ 8) (C : Int) (hC : cod k = C) :
    Calls Tryd.prog 90 #[.agg #[.int .i64 k, .int .u64 u, .string s, .slice A0 n0 c0, .int .i64 o, .slice A1 n1 c1]] W fun e W' => ∃ v, e = .returned v ∧ PcsW W' W.heap.size ((if -128 ≤ wrap64 u ∧ wrap64 u < 128 then [(84, be u 1)] else []) ++ [(C, be u Z)]) v ∧ Below W.heap.size W W' := by
  obtain ⟨w1, hw1⟩ : ∃ w1, w1 = W.alloc (.cells #[.int .i64 k, .int .u64 u, .string s, .slice A0 n0 c0, .int .i64 o, .slice A1 n1 c1] 25) := ⟨_, rfl⟩
  have hp1 : Blk w1 W.heap.size 25 [.int .i64 k, .int .u64 u, .string s, .slice A0 n0 c0, .int .i64 o, .slice A1 n1 c1] := by rw [hw1]; exact Blk.new W 25 [.int .i64 k, .int .u64 u, .string s, .slice A0 n0 c0, .int .i64 o, .slice A1 n1 c1]
  have hb1 : Below W.heap.size W w1 := by rw [hw1]; exact (Below.refl _ W).alloc (Nat.le_refl _) _
  have v0 := hp1.cell 0
  have v1 := hp1.cell 1
  simp only [List.getElem?_cons_zero, List.getElem?_cons_succ] at v0 v1
  have hcc := fun w => coded_calls w k (by omega)
  rw [hC] at hcc
  have hxx := fun w => fixedSize_calls w k (by omega)
  rw [hZ] at hxx
  have HKK : Hid (-9223372036854775808 ≤ k ∧ k ≤ 9223372036854775807) := Lib.hid (by omega)
  have HLK8 : Hid (look [(8, 84), (9, 85)] k = 84) := Lib.hid (by rw [hk]; rfl)
  have e4 : (k == 4) = false := by rw [hk]; rfl
  have e5 : (k == 5) = false := by rw [hk]; rfl
  have e8 : (k == 8) = true := by rw [hk]; rfl
  have e9 : (k == 9) = false := by rw [hk]; rfl
  have HW1 := Lib.hid hw1
  have HP1 := Lib.hid hp1
  have HB1 := Lib.hid hb1
  have HCC := Lib.hid hcc
  have HXX := Lib.hid hxx
  clear hw1 hp1 hb1 hcc hxx hk
  go_enter Tryd.func90, Tryd.ntmps90
  go_upto_region 1 with (fail)
  rw [← HW1.out]
  go_quiet (fail)
  go_wp2
  refine region_front 10 (GF W.heap.size W.heap.size k C u Z) (fun _ _ w => Below W.heap.size W w ∧ Blk w W.heap.size 25 [.int .i64 k, .int .u64 u, .string s, .slice A0 n0 c0, .int .i64 o, .slice A1 n1 c1]) (fun w w' => Below w.heap.size w w') (by kernel_rfl) (by kernel_rfl) (by kernel_rfl) (by kernel_rfl) (by decide) (by kernel_rfl) (by kernel_rfl) (GF_keep _ _ _ _ _ _) ⟨below_drewN HB1.out (nq + 1), HP1.out.drewN (nq + 1)⟩ ?_ ?_
  · intro i hi li v a w inv F hr
    obtain ⟨hbel, hblk⟩ := F.res
    have t1 := F.oldv (s := 1) (by kernel_rfl)
    have t3 := F.oldv (s := 3) (by kernel_rfl)
    rcases (show i = 0 ∨ i = 1 ∨ i = 2 ∨ i = 3 ∨ i = 4 ∨ i = 5 ∨ i = 6 ∨ i = 7 ∨ i = 8 ∨ i = 9 by omega) with rfl | rfl | rfl | rfl | rfl | rfl | rfl | rfl | rfl | rfl
    · refine ⟨_, rfl, rfl, oper_plain (.pointer (some ⟨W.heap.size, 0, none⟩)) (w' := w) ?_ ⟨_, rfl, Below.refl _ _, rfl, hbel, hblk⟩⟩
      have h1 : a.tmps.getD 1 undef = .pointer (some ⟨W.heap.size, 0, none⟩) := t1
      clear F hblk hbel
      go_simp
    · obtain ⟨r0, g0⟩ := F.slot (d := 0) (s := 12) hr (by kernel_rfl) (by omega) (by kernel_rfl)
      refine ⟨_, rfl, rfl, oper_plain (.int .i64 k) (w' := w) ?_ ⟨_, rfl, Below.refl _ _, rfl, hbel, hblk⟩⟩
      have h1 : a.tmps.getD 12 undef = .pointer (some ⟨W.heap.size, 0, none⟩) := r0.trans g0
      have hc := hblk.cell 0
      simp only [List.getElem?_cons_zero] at hc
      clear F hblk hbel r0 g0
      go_simp
    · obtain ⟨r0, g0⟩ := F.slot (d := 1) (s := 13) hr (by kernel_rfl) (by omega) (by kernel_rfl)
      have h1 : a.tmps.getD 13 undef = .int .i64 k := r0.trans g0
      refine ⟨_, rfl, rfl, oper_call 87 #[.int .i64 k] ?_ ((HCC.out w).mono ?_)⟩
      · clear F hblk hbel r0 g0
        go_simp
      · rintro e w' ⟨rfl, hb⟩
        exact ⟨_, rfl, _, rfl, hb, rfl, hbel.trans (hb.mono hbel.size), hblk.below hb hblk.lt⟩
    · have h1 : a.tmps.getD 3 undef = .int .u64 u := t3
      refine ⟨_, rfl, rfl, oper_plain (.int .u64 u) (w' := w) ?_ ⟨_, rfl, Below.refl _ _, rfl, hbel, hblk⟩⟩
      clear F hblk hbel
      go_simp
    · refine ⟨_, rfl, rfl, oper_plain (.pointer (some ⟨W.heap.size, 0, none⟩)) (w' := w) ?_ ⟨_, rfl, Below.refl _ _, rfl, hbel, hblk⟩⟩
      have h1 : a.tmps.getD 1 undef = .pointer (some ⟨W.heap.size, 0, none⟩) := t1
      clear F hblk hbel
      go_simp
    · obtain ⟨r0, g0⟩ := F.slot (d := 4) (s := 16) hr (by kernel_rfl) (by omega) (by kernel_rfl)
      refine ⟨_, rfl, rfl, oper_plain (.int .i64 k) (w' := w) ?_ ⟨_, rfl, Below.refl _ _, rfl, hbel, hblk⟩⟩
      have h1 : a.tmps.getD 16 undef = .pointer (some ⟨W.heap.size, 0, none⟩) := r0.trans g0
      have hc := hblk.cell 0
      simp only [List.getElem?_cons_zero] at hc
      clear F hblk hbel r0 g0
      go_simp
    · obtain ⟨r0, g0⟩ := F.slot (d := 5) (s := 17) hr (by kernel_rfl) (by omega) (by kernel_rfl)
      have h1 : a.tmps.getD 17 undef = .int .i64 k := r0.trans g0
      refine ⟨_, rfl, rfl, oper_call 95 #[.int .i64 k] ?_ ((HXX.out w).mono ?_)⟩
      · clear F hblk hbel r0 g0
        go_simp
      · rintro e w' ⟨rfl, hb⟩
        exact ⟨_, rfl, _, rfl, hb, rfl, hbel.trans (hb.mono hbel.size), hblk.below hb hblk.lt⟩
    · obtain ⟨r0, g0⟩ := F.slot (d := 3) (s := 15) hr (by kernel_rfl) (by omega) (by kernel_rfl)
      obtain ⟨r1, g1⟩ := F.slot (d := 6) (s := 18) hr (by kernel_rfl) (by omega) (by kernel_rfl)
      have h1 : a.tmps.getD 15 undef = .int .u64 u := r0.trans g0
      have h2 : a.tmps.getD 18 undef = .int .i64 (Z : Int) := r1.trans g1
      refine ⟨_, rfl, rfl, oper_call 98 #[.int .u64 u, .int .i64 Z] ?_ ((big_calls2 w u Z hu0 hu1 hZ8).mono ?_)⟩
      · clear F hblk hbel r0 g0 r1 g1
        go_simp
      · rintro e w' ⟨Ab, cb, rfl, hob, hb⟩
        refine ⟨_, rfl, _, rfl, hb, ?_, hbel.trans (hb.mono hbel.size), hblk.below hb hblk.lt⟩
        exact (OwnB.of_own hob (be_length _ _)).lower hbel.size
    · obtain ⟨r0, g0⟩ := F.slot (d := 2) (s := 14) hr (by kernel_rfl) (by omega) (by kernel_rfl)
      obtain ⟨r1, g1⟩ := F.slot (d := 7) (s := 19) hr (by kernel_rfl) (by omega) (by kernel_rfl)
      have h1 : a.tmps.getD 14 undef = .int .i64 C := r0.trans g0
      have h2 : a.tmps.getD 19 undef = v 7 := r1
      refine ⟨_, rfl, rfl, oper_plain (.agg #[.int .i64 C, v 7]) (w' := w) ?_ ⟨_, rfl, Below.refl _ _, ⟨v 7, rfl, (show OwnB _ _ _ _ from g1)⟩, hbel, hblk⟩⟩
      obtain ⟨Ad, cd, hvd, _⟩ := g1
      rw [hvd] at h2 ⊢
      clear F hblk hbel r0 g0 r1 hvd
      rw [Array.getD_eq_getD_getElem?] at h1 h2
      go_simp
    · refine ⟨_, rfl, rfl, oper_plain (.pointer (some ⟨w.heap.size, 0, none⟩)) (w' := w.alloc (.cells #[.int .i64 0, .slice none 0 0] 118)) ?_ ⟨_, rfl, (Below.refl _ w).alloc (Nat.le_refl _) _, ⟨_, rfl, hbel.size, Blk.new w 118 [.int .i64 0, .slice none 0 0]⟩, hbel.alloc hbel.size _, hblk.alloc _⟩⟩
      clear F hblk hbel
      go_simp
  · intro v w hG hR
    obtain ⟨hbel, hblk⟩ := hR
    simp only [List.take_succ_cons, List.take_zero, List.drop_succ_cons, List.drop_zero, List.map_cons, List.map_nil, puts, Nat.zero_add, Nat.reduceAdd]
    go_frame
    obtain ⟨d, hx8, ho8⟩ := hG 8 (by omega)
    obtain ⟨p, hx9, hpB, hp9⟩ := hG 9 (by omega)
    have ho9 := ho8
    obtain ⟨Ad, cd, hvd, hrd⟩ := ho8
    rw [be_length] at hvd
    subst hvd
    rw [hx8, hx9]
    have ho8 := ho9
    clear ho9 hrd
    have q0 := hp9.cell 0
    have q1 := hp9.cell 1
    have qz := hp9.frozen 0
    have qz1 := hp9.frozen 1
    simp only [List.getElem?_cons_zero, List.getElem?_cons_succ] at q0 q1
    have HQ := Lib.hid hp9
    have HO := Lib.hid ho8
    have HBL := Lib.hid hblk
    have HBE := Lib.hid hbel
    clear hG hx8 hx9 hp9 ho8 hblk hbel HCC HXX v0 v1
    go_upto_region 3 with (fail)
    obtain ⟨w3, hw3⟩ : ∃ w3, w3 = (w.setCell ⟨p, 0, none⟩ (.int .i64 C)).setCell ⟨p, 1, none⟩ (.slice Ad Z cd) := ⟨_, rfl⟩
    rw [← hw3]
    have hne : p ≠ W.heap.size := HQ.out.ne_ HBL.out (by decide)
    have hg3 : w.grownBy w3 (some p) := by rw [hw3]; exact grownV_trans (grown_set w p 0 _) (grown_set _ p 1 _)
    have hp3 : Blk w3 p 118 [.int .i64 C, .slice Ad Z cd] := by rw [hw3]; exact (HQ.out.set_ 0 _).set_ 1 _
    have hv3 := HBL.out.grown hg3 (fun e => hne (by injection e with e; exact e.symm))
    have ho3 := HO.out.keptg HQ.out (by decide) hg3
    have hb3 : Below W.heap.size W w3 := HBE.out.grown hg3 HBE.out.size (fun j hj => by injection hj with hj; omega)
    have x0 := hp3.cell 0
    have x1 := hp3.cell 1
    have y0 := hv3.cell 0
    simp only [List.getElem?_cons_zero, List.getElem?_cons_succ] at x0 x1 y0
    have hz3 : W.heap.size < w3.heap.size := hv3.lt
    have HP3 := Lib.hid hp3
    have HV3 := Lib.hid hv3
    have HO3 := Lib.hid ho3
    have HB3 := Lib.hid hb3
    clear hw3 hg3 hp3 hv3 ho3 hb3 q0 q1 qz qz1 HQ HO HBL HBE
    obtain ⟨w4, hw4⟩ : ∃ w4, w4 = w3.alloc (.cells #[.int .i64 C, .slice Ad Z cd] 118) := ⟨_, rfl⟩
    obtain ⟨g6, hg6⟩ : ∃ g6, w3.heap.size = g6 := ⟨_, rfl⟩
    have hp4 : PcsW w4 W.heap.size [(C, be u Z)] (.slice (some ⟨g6, 0, none⟩) 1 1) := by rw [hw4, ← hg6]; exact pcsW_one _ _ (C, be u Z) _ HB3.out.size HO3.out
    have hb4 : Below W.heap.size W w4 := by rw [hw4]; exact HB3.out.alloc HB3.out.size _
    have hv4 : Blk w4 W.heap.size 25 [.int .i64 k, .int .u64 u, .string s, .slice A0 n0 c0, .int .i64 o, .slice A1 n1 c1] := by rw [hw4]; exact HV3.out.alloc _
    have hz4 := hv4.lt
    have y4 := hv4.cell 0
    simp only [List.getElem?_cons_zero] at y4
    have HP4 := Lib.hid hp4
    have HB4 := Lib.hid hb4
    have HV4 := Lib.hid hv4
    have HW4 := Lib.hid hw4
    have HG6 := Lib.hid hg6
    clear hp4 hb4 hv4 hw4 hg6
    by_cases hlt : -128 ≤ wrap64 u ∧ wrap64 u < 128
    · have hd : decide (-128 ≤ wrap64 u) = true := decide_eq_true hlt.1
      have hd2 : decide (wrap64 u < 128) = true := decide_eq_true hlt.2
      go_upto_region 14 with (fail)
      rw [← HW4.out, HG6.out]
      clear x0 x1 y0 hz3 HP3 HV3 HO3 HB3 hpB hne
      have HVD : Hid (Blk w4.drew W.heap.size 25 [.int .i64 k, .int .u64 u, .string s, .slice A0 n0 c0, .int .i64 o, .slice A1 n1 c1]) := Lib.hid ((HV4.out).drewN 1)
      have HBD : Hid (Below W.heap.size W w4.drew) := Lib.hid (below_drewN (HB4.out) 1)
      have HPD : Hid (PcsW w4.drew W.heap.size [(C, be u Z)] (.slice (some ⟨g6, 0, none⟩) 1 1)) := Lib.hid (PcsW.below (HP4.out) (Below.refl _ _).drew)
      refine region_front 12 (G8 W.heap.size W.heap.size k 84 u [(C, be u Z)] (.slice (some ⟨g6, 0, none⟩) 1 1)) (fun l v w => MpR w4.drew [(1, 8, 84), (2, 9, 85)] 3 l v w) EC (by kernel_rfl) (by kernel_rfl) (by kernel_rfl) (by kernel_rfl) (by decide) (by kernel_rfl) (by kernel_rfl) (G8_keep _ _ _ _ _ _ _) (MpR.start _ _ _ _ _) ?_ ?_
      · intro i hi li v a w inv F hr
        have hR := F.res
        have hun := (mem_ready.1 hr).1
        have hblk := HVD.out.below hR.bel HVD.out.lt
        have t1 : a.tmps.getD 1 undef = .pointer (some ⟨W.heap.size, 0, none⟩) := F.oldv (s := 1) (by kernel_rfl)
        have t3 : a.tmps.getD 3 undef = .int .u64 u := F.oldv (s := 3) (by kernel_rfl)
        have t6 : a.tmps.getD 6 undef = (.slice (some ⟨g6, 0, none⟩) 1 1) := F.oldv (s := 6) (by kernel_rfl)
        rcases (show i = 0 ∨ i = 1 ∨ i = 2 ∨ i = 3 ∨ i = 4 ∨ i = 5 ∨ i = 6 ∨ i = 7 ∨ i = 8 ∨ i = 9 ∨ i = 10 ∨ i = 11 by omega) with rfl | rfl | rfl | rfl | rfl | rfl | rfl | rfl | rfl | rfl | rfl | rfl
        · exact ⟨_, rfl, rfl, hR.make (G8 W.heap.size W.heap.size k 84 u [(C, be u Z)] (.slice (some ⟨g6, 0, none⟩) 1 1)) (fun _ _ => trivial) hun (by decide) (by decide) 158 rfl⟩
        · obtain ⟨r0, -⟩ := F.slot (d := 0) (s := 61) hr (by kernel_rfl) (by omega) (by kernel_rfl)
          have hmj : li.getD 3 false = false := by
            cases hb : li.getD 3 false with
            | false => rfl
            | true =>
              have h1 := closed_of inv (j := 3) (d := 1) (by kernel_rfl) hb
              rw [getD_both hun] at h1
              cases h1
          exact ⟨_, rfl, rfl, hR.insert (G8 W.heap.size W.heap.size k 84 u [(C, be u Z)] (.slice (some ⟨g6, 0, none⟩) 1 1)) (fun _ _ => trivial) hun (by decide) (by decide) hmj (by decide) (dep_of (d := 0) (by kernel_rfl) hr) (.tmp 61) (.const (.int .i64 8)) (.const (.int .i64 84)) rfl rfl 8 84 rfl rfl r0 (by decide) (by decide) (by decide) (by omega) (by omega)⟩
        · obtain ⟨r0, -⟩ := F.slot (d := 0) (s := 61) hr (by kernel_rfl) (by omega) (by kernel_rfl)
          have hmj : li.getD 3 false = false := by
            cases hb : li.getD 3 false with
            | false => rfl
            | true =>
              have h1 := closed_of inv (j := 3) (d := 2) (by kernel_rfl) hb
              rw [getD_both hun] at h1
              cases h1
          exact ⟨_, rfl, rfl, hR.insert (G8 W.heap.size W.heap.size k 84 u [(C, be u Z)] (.slice (some ⟨g6, 0, none⟩) 1 1)) (fun _ _ => trivial) hun (by decide) (by decide) hmj (by decide) (dep_of (d := 0) (by kernel_rfl) hr) (.tmp 61) (.const (.int .i64 9)) (.const (.int .i64 85)) rfl rfl 9 85 rfl rfl r0 (by decide) (by decide) (by decide) (by omega) (by omega)⟩
        · obtain ⟨r0, -⟩ := F.slot (d := 0) (s := 61) hr (by kernel_rfl) (by omega) (by kernel_rfl)
          refine ⟨_, rfl, rfl, oper_plain (v 0) (w' := w) ?_ ⟨_, rfl, EC.of_below (Below.refl _ _), trivial, hR.move (dep_of (d := 0) (by kernel_rfl) hr) (by decide) (by decide)⟩⟩
          clear F hblk hR inv hr hun
          go_simp
        · obtain ⟨e1, e2⟩ := step_next hR (Below.refl _ _) 4 (by decide) (by decide) (by decide) (by decide) (.pointer (some ⟨W.heap.size, 0, none⟩))
          refine ⟨_, rfl, rfl, oper_plain (.pointer (some ⟨W.heap.size, 0, none⟩)) (w' := w) ?_ ⟨_, rfl, e1, rfl, e2⟩⟩
          clear F hblk hR inv hr hun e1 e2
          go_simp
        · obtain ⟨r0, g0⟩ := F.slot (d := 4) (s := 63) hr (by kernel_rfl) (by omega) (by kernel_rfl)
          have h1 : a.tmps.getD 63 undef = .pointer (some ⟨W.heap.size, 0, none⟩) := r0.trans g0
          have hc := hblk.cell 0
          simp only [List.getElem?_cons_zero] at hc
          obtain ⟨e1, e2⟩ := step_next hR (Below.refl _ _) 5 (by decide) (by decide) (by decide) (by decide) (.int .i64 k)
          refine ⟨_, rfl, rfl, oper_plain (.int .i64 k) (w' := w) ?_ ⟨_, rfl, e1, rfl, e2⟩⟩
          clear F hblk hR inv hr hun e1 e2 r0 g0
          go_simp
        · obtain ⟨r0, -⟩ := F.slot (d := 3) (s := 62) hr (by kernel_rfl) (by omega) (by kernel_rfl)
          obtain ⟨r1, g1⟩ := F.slot (d := 5) (s := 64) hr (by kernel_rfl) (by omega) (by kernel_rfl)
          have h2 : a.tmps.getD 64 undef = .int .i64 k := r1.trans g1
          have h3d : li.getD 3 false = true := dep_of (d := 3) (by kernel_rfl) hr
          obtain ⟨b, hvb, hlk⟩ := hR.look h3d (fun p hp => by
            have h1 := closed_of inv (j := 3) (d := 1) (by kernel_rfl) h3d
            have h2 := closed_of inv (j := 3) (d := 2) (by kernel_rfl) h3d
            simp only [List.mem_cons, List.mem_nil_iff, or_false] at hp
            rcases hp with rfl | rfl
            · exact h1
            · exact h2) (by decide) k 84 HKK.out (HLK8.out)
          have h1 : a.tmps.getD 62 undef = .map (some b) := r0.trans hvb
          obtain ⟨e1, e2⟩ := step_next hR (Below.refl _ _) 6 (by decide) (by decide) (by decide) (by decide) (.int .i64 84)
          refine ⟨_, rfl, rfl, oper_plain (.int .i64 84) (w' := w) ?_ ⟨_, rfl, e1, rfl, e2⟩⟩
          clear F hblk hR inv hr hun e1 e2 r0 r1 g1 hvb
          go_simp
        · obtain ⟨e1, e2⟩ := step_next hR (Below.refl _ _) 7 (by decide) (by decide) (by decide) (by decide) (.int .u64 u)
          refine ⟨_, rfl, rfl, oper_plain (.int .u64 u) (w' := w) ?_ ⟨_, rfl, e1, rfl, e2⟩⟩
          clear F hblk hR inv hr hun e1 e2
          go_simp
        · obtain ⟨r0, g0⟩ := F.slot (d := 7) (s := 66) hr (by kernel_rfl) (by omega) (by kernel_rfl)
          have h1 : a.tmps.getD 66 undef = .int .u64 u := r0.trans g0
          refine ⟨_, rfl, rfl, oper_call 98 #[.int .u64 u, .int .i64 1] ?_ ((big_calls2 w u 1 hu0 hu1 (by omega)).mono ?_)⟩
          · clear F hblk hR inv hr hun r0 g0
            go_simp
          · rintro e w' ⟨Ab, cb, rfl, hob, hb⟩
            obtain ⟨e1, e2⟩ := step_next hR hb 8 (by decide) (by decide) (by decide) (by decide) (.slice Ab 1 cb)
            exact ⟨_, rfl, _, rfl, e1, (OwnB.of_own hob (be_length _ _)).lower (Nat.le_trans HBD.out.size hR.bel.size), e2⟩
        · obtain ⟨r0, g0⟩ := F.slot (d := 6) (s := 65) hr (by kernel_rfl) (by omega) (by kernel_rfl)
          obtain ⟨r1, g1⟩ := F.slot (d := 8) (s := 67) hr (by kernel_rfl) (by omega) (by kernel_rfl)
          have h1 : a.tmps.getD 65 undef = .int .i64 84 := r0.trans g0
          have h2 : a.tmps.getD 67 undef = v 8 := r1
          obtain ⟨e1, e2⟩ := step_next hR (Below.refl _ _) 9 (by decide) (by decide) (by decide) (by decide) (.agg #[.int .i64 84, v 8])
          refine ⟨_, rfl, rfl, oper_plain (.agg #[.int .i64 84, v 8]) (w' := w) ?_ ⟨_, rfl, e1, ⟨v 8, rfl, (show OwnB _ _ _ _ from g1)⟩, e2⟩⟩
          obtain ⟨Ad, cd, hvd, _⟩ := g1
          rw [hvd] at h2 ⊢
          clear F hblk hR inv hr hun e1 e2 r0 g0 r1 hvd
          rw [Array.getD_eq_getD_getElem?] at h1 h2
          go_simp
        · obtain ⟨r0, g0⟩ := F.slot (d := 9) (s := 68) hr (by kernel_rfl) (by omega) (by kernel_rfl)
          obtain ⟨d, hd, hod⟩ := g0
          have hod' := hod
          obtain ⟨Ad, cd, hvd, _⟩ := hod'
          rw [be_length] at hvd
          rw [hvd] at hd hod
          have h1 : a.tmps.getD 68 undef = .agg #[.int .i64 84, .slice Ad 1 cd] := r0.trans hd
          have hwB : W.heap.size ≤ w.heap.size := Nat.le_trans HBD.out.size hR.bel.size
          obtain ⟨e1, e2⟩ := step_next hR ((Below.refl _ w).alloc (Nat.le_refl _) (.cells #[.int .i64 84, .slice Ad 1 cd] 118)) 10 (by decide) (by decide) (by decide) (by decide) (.slice (some ⟨w.heap.size, 0, none⟩) 1 1)
          refine ⟨_, rfl, rfl, oper_plain (.slice (some ⟨w.heap.size, 0, none⟩) 1 1) (w' := w.alloc (.cells #[.int .i64 84, .slice Ad 1 cd] 118)) ?_ ⟨_, rfl, e1, pcsW_one w _ (84, be u 1) _ hwB hod, e2⟩⟩
          clear F hblk hR inv hr hun e1 e2 r0 hd hod hvd
          rw [Array.getD_eq_getD_getElem?] at h1
          go_simp
        · obtain ⟨e1, e2⟩ := step_next hR (Below.refl _ _) 11 (by decide) (by decide) (by decide) (by decide) ((.slice (some ⟨g6, 0, none⟩) 1 1))
          refine ⟨_, rfl, rfl, oper_plain ((.slice (some ⟨g6, 0, none⟩) 1 1)) (w' := w) ?_ ⟨_, rfl, e1, ⟨rfl, HPD.out.below (hR.bel)⟩, e2⟩⟩
          clear F hblk hR inv hr hun e1 e2
          go_simp
      · intro v w hG hR
        have hbel := hR.bel
        simp only [List.take_succ_cons, List.take_zero, List.drop_succ_cons, List.drop_zero, List.map_cons, List.map_nil, puts, Nat.zero_add, Nat.reduceAdd]
        go_frame
        have h10 : PcsW w W.heap.size [(84, be u 1)] (v 10) := hG 10 (by omega)
        obtain ⟨h11, h12⟩ := hG 11 (by omega)
        have hvb := HVD.out.below hbel HVD.out.lt
        have hbw : Below W.heap.size W w := HBD.out.trans (hbel.mono HBD.out.size)
        rw [h11]
        have H10 := Lib.hid h10
        have H12 := Lib.hid h12
        have HVB := Lib.hid hvb
        have HBW := Lib.hid hbw
        clear hG hR h10 h12 hvb hbw hbel
        go_upto_region 15 with (
            (at_builtin)
            go_must (
              (refine wpList_append_P rfl (.tmp 69) (.tmp 70) rfl rfl rfl H10.out H12.out HBW.out.size (by simp) ?_)
              intro A9 c9 w9 HPW9 HGR9
              obtain ⟨Ax, cx, Sx, hxv, hxs, hxo, hxd⟩ := H10.out
              have hv9 := HVB.out.grown HGR9.out (fun e => own_neH hxo HVB.out (by decide) e.symm)
              have hb9 : Below W.heap.size W w9 := HBW.out.grown HGR9.out HBW.out.size (fun j hj => (hxo.lt j hj).1)
              have HV9 := Lib.hid hv9
              have HB9 := Lib.hid hb9
              have hz9 := hv9.lt
              clear hxv hxs hxo hxd hv9 hb9 HGR9 H10 H12 HVB HBW))
        go_wp2
        go_ret
        exact ⟨_, rfl, by (try rw [if_pos hlt]); exact HPW9.out, HB9.out⟩
    · by_cases hlo : -128 ≤ wrap64 u
      · have hd : decide (-128 ≤ wrap64 u) = true := decide_eq_true hlo
        have hd2 : decide (wrap64 u < 128) = false := decide_eq_false (fun h => hlt ⟨hlo, h⟩)
        go_wp2
        go_ret
        exact ⟨_, rfl, by (try rw [if_neg hlt]); (have h9 := HP4.out); rw [HW4.out, ← HG6.out] at h9; exact h9, by rw [← HW4.out]; exact HB4.out⟩
      · have hd : decide (-128 ≤ wrap64 u) = false := decide_eq_false hlo
        go_wp2
        go_ret
        exact ⟨_, rfl, by (try rw [if_neg hlt]); (have h9 := HP4.out); rw [HW4.out, ← HG6.out] at h9; exact h9, by rw [← HW4.out]; exact HB4.out⟩
end Go.Proofs.YtjjhckbidcdkcaaDoor

namespace Go.Proofs.YtjjhckbidcdkcaaDoor
open Go.RowKit
set_option linter.unusedVariables false

set_option maxHeartbeats 4000000 in
set_option maxRecDepth 3000 in
theorem numbered_9 (W : World) (k u o : Int) (s : ByteArray) (n0 n1 c0 c1 : Nat) (A0 A1 : Option Addr) (hu0 : 0 ≤ u) (hu1 : u ≤ 18446744073709551615) (hk : k = 9) (Z : Nat) (hZ : fsz k = (Z : Int)) (hZ8 : Z ≤ 8) (C : Int) (hC : cod k = C) :
    Calls Tryd.prog 90 #[.agg #[.int .i64 k, .int .u64 u, .string s, .slice A0 n0 c0, .int .i64 o, .slice A1 n1 c1]] W fun e W' => ∃ v, e = .returned v ∧ PcsW W' W.heap.size ((if -128 ≤ wrap64 u ∧ wrap64 u < 128 then [(85, be u 1)] else []) ++ [(C, be u Z)]) v ∧ Below W.heap.size W W' := by
  obtain ⟨w1, hw1⟩ : ∃ w1, w1 = W.alloc (.cells #[.int .i64 k, .int .u64 u, .string s, .slice A0 n0 c0, .int .i64 o, .slice A1 n1 c1] 25) := ⟨_, rfl⟩
  have hp1 : Blk w1 W.heap.size 25 [.int .i64 k, .int .u64 u, .string s, .slice A0 n0 c0, .int .i64 o, .slice A1 n1 c1] := by rw [hw1]; exact Blk.new W 25 [.int .i64 k, .int .u64 u, .string s, .slice A0 n0 c0, .int .i64 o, .slice A1 n1 c1]
  have hb1 : Below W.heap.size W w1 := by rw [hw1]; exact (Below.refl _ W).alloc (Nat.le_refl _) _
  have v0 := hp1.cell 0
  have v1 := hp1.cell 1
  simp only [List.getElem?_cons_zero, List.getElem?_cons_succ] at v0 v1
  have hcc := fun w => coded_calls w k (by omega)
  rw [hC] at hcc
  have hxx := fun w => fixedSize_calls w k (by omega)
  rw [hZ] at hxx
  have HKK : Hid (-9223372036854775808 ≤ k ∧ k ≤ 9223372036854775807) := Lib.hid (by omega)
  have HLK8 : Hid (look [(8, 84), (9, 85)] k = 85) := Lib.hid (by rw [hk]; rfl)
  have e4 : (k == 4) = false := by rw [hk]; rfl
  have e5 : (k == 5) = false := by rw [hk]; rfl
  have e8 : (k == 8) = false := by rw [hk]; rfl
  have e9 : (k == 9) = true := by rw [hk]; rfl
  have HW1 := Lib.hid hw1
  have HP1 := Lib.hid hp1
  have HB1 := Lib.hid hb1
  have HCC := Lib.hid hcc
  have HXX := Lib.hid hxx
  clear hw1 hp1 hb1 hcc hxx hk
  go_enter Tryd.func90, Tryd.ntmps90
  go_upto_region 1 with (fail)
  rw [← HW1.out]
  go_quiet (fail)
  go_wp2
  refine region_front 10 (GF W.heap.size W.heap.size k C u Z) (fun _ _ w => Below W.heap.size W w ∧ Blk w W.heap.size 25 [.int .i64 k, .int .u64 u, .string s, .slice A0 n0 c0, .int .i64 o, .slice A1 n1 c1]) (fun w w' => Below w.heap.size w w') (by kernel_rfl) (by kernel_rfl) (by kernel_rfl) (by kernel_rfl) (by decide) (by kernel_rfl) (by kernel_rfl) (GF_keep _ _ _ _ _ _) ⟨below_drewN HB1.out (nq + 1), HP1.out.drewN (nq + 1)⟩ ?_ ?_
  · intro i hi li v a w inv F hr
    obtain ⟨hbel, hblk⟩ := F.res
    have t1 := F.oldv (s := 1) (by kernel_rfl)
    have t3 := F.oldv (s := 3) (by kernel_rfl)
    rcases (show i = 0 ∨ i = 1 ∨ i = 2 ∨ i = 3 ∨ i = 4 ∨ i = 5 ∨ i = 6 ∨ i = 7 ∨ i = 8 ∨ i = 9 by omega) with rfl | rfl | rfl | rfl | rfl | rfl | rfl | rfl | rfl | rfl
    · refine ⟨_, rfl, rfl, oper_plain (.pointer (some ⟨W.heap.size, 0, none⟩)) (w' := w) ?_ ⟨_, rfl, Below.refl _ _, rfl, hbel, hblk⟩⟩
      have h1 : a.tmps.getD 1 undef = .pointer (some ⟨W.heap.size, 0, none⟩) := t1
      clear F hblk hbel
      go_simp
    · obtain ⟨r0, g0⟩ := F.slot (d := 0) (s := 12) hr (by kernel_rfl) (by omega) (by kernel_rfl)
      refine ⟨_, rfl, rfl, oper_plain (.int .i64 k) (w' := w) ?_ ⟨_, rfl, Below.refl _ _, rfl, hbel, hblk⟩⟩
      have h1 : a.tmps.getD 12 undef = .pointer (some ⟨W.heap.size, 0, none⟩) := r0.trans g0
      have hc := hblk.cell 0
      simp only [List.getElem?_cons_zero] at hc
      clear F hblk hbel r0 g0
      go_simp
    · obtain ⟨r0, g0⟩ := F.slot (d := 1) (s := 13) hr (by kernel_rfl) (by omega) (by kernel_rfl)
      have h1 : a.tmps.getD 13 undef = .int .i64 k := r0.trans g0
      refine ⟨_, rfl, rfl, oper_call 87 #[.int .i64 k] ?_ ((HCC.out w).mono ?_)⟩
      · clear F hblk hbel r0 g0
        go_simp
      · rintro e w' ⟨rfl, hb⟩
        exact ⟨_, rfl, _, rfl, hb, rfl, hbel.trans (hb.mono hbel.size), hblk.below hb hblk.lt⟩
    · have h1 : a.tmps.getD 3 undef = .int .u64 u := t3
      refine ⟨_, rfl, rfl, oper_plain (.int .u64 u) (w' := w) ?_ ⟨_, rfl, Below.refl _ _, rfl, hbel, hblk⟩⟩
      clear F hblk hbel
      go_simp
    · refine ⟨_, rfl, rfl, oper_plain (.pointer (some ⟨W.heap.size, 0, none⟩)) (w' := w) ?_ ⟨_, rfl, Below.refl _ _, rfl, hbel, hblk⟩⟩
      have h1 : a.tmps.getD 1 undef = .pointer (some ⟨W.heap.size, 0, none⟩) := t1
      clear F hblk hbel
      go_simp
    · obtain ⟨r0, g0⟩ := F.slot (d := 4) (s := 16) hr (by kernel_rfl) (by omega) (by kernel_rfl)
      refine ⟨_, rfl, rfl, oper_plain (.int .i64 k) (w' := w) ?_ ⟨_, rfl, Below.refl _ _, rfl, hbel, hblk⟩⟩
      have h1 : a.tmps.getD 16 undef = .pointer (some ⟨W.heap.size, 0, none⟩) := r0.trans g0
      have hc := hblk.cell 0
      simp only [List.getElem?_cons_zero] at hc
      clear F hblk hbel r0 g0
      go_simp
    · obtain ⟨r0, g0⟩ := F.slot (d := 5) (s := 17) hr (by kernel_rfl) (by omega) (by kernel_rfl)
      have h1 : a.tmps.getD 17 undef = .int .i64 k := r0.trans g0
      refine ⟨_, rfl, rfl, oper_call 95 #[.int .i64 k] ?_ ((HXX.out w).mono ?_)⟩
      · clear F hblk hbel r0 g0
        go_simp
      · rintro e w' ⟨rfl, hb⟩
        exact ⟨_, rfl, _, rfl, hb, rfl, hbel.trans (hb.mono hbel.size), hblk.below hb hblk.lt⟩
    · obtain ⟨r0, g0⟩ := F.slot (d := 3) (s := 15) hr (by kernel_rfl) (by omega) (by kernel_rfl)
      obtain ⟨r1, g1⟩ := F.slot (d := 6) (s := 18) hr (by kernel_rfl) (by omega) (by kernel_rfl)
      have h1 : a.tmps.getD 15 undef = .int .u64 u := r0.trans g0
      have h2 : a.tmps.getD 18 undef = .int .i64 (Z : Int) := r1.trans g1
      refine ⟨_, rfl, rfl, oper_call 98 #[.int .u64 u, .int .i64 Z] ?_ ((big_calls2 w u Z hu0 hu1 hZ8).mono ?_)⟩
      · clear F hblk hbel r0 g0 r1 g1
        go_simp
      · rintro e w' ⟨Ab, cb, rfl, hob, hb⟩
        refine ⟨_, rfl, _, rfl, hb, ?_, hbel.trans (hb.mono hbel.size), hblk.below hb hblk.lt⟩
        exact (OwnB.of_own hob (be_length _ _)).lower hbel.size
    · obtain ⟨r0, g0⟩ := F.slot (d := 2) (s := 14) hr (by kernel_rfl) (by omega) (by kernel_rfl)
      obtain ⟨r1, g1⟩ := F.slot (d := 7) (s := 19) hr (by kernel_rfl) (by omega) (by kernel_rfl)
      have h1 : a.tmps.getD 14 undef = .int .i64 C := r0.trans g0
      have h2 : a.tmps.getD 19 undef = v 7 := r1
      refine ⟨_, rfl, rfl, oper_plain (.agg #[.int .i64 C, v 7]) (w' := w) ?_ ⟨_, rfl, Below.refl _ _, ⟨v 7, rfl, (show OwnB _ _ _ _ from g1)⟩, hbel, hblk⟩⟩
      obtain ⟨Ad, cd, hvd, _⟩ := g1
      rw [hvd] at h2 ⊢
      clear F hblk hbel r0 g0 r1 hvd
      rw [Array.getD_eq_getD_getElem?] at h1 h2
      go_simp
    · refine ⟨_, rfl, rfl, oper_plain (.pointer (some ⟨w.heap.size, 0, none⟩)) (w' := w.alloc (.cells #[.int .i64 0, .slice none 0 0] 118)) ?_ ⟨_, rfl, (Below.refl _ w).alloc (Nat.le_refl _) _, ⟨_, rfl, hbel.size, Blk.new w 118 [.int .i64 0, .slice none 0 0]⟩, hbel.alloc hbel.size _, hblk.alloc _⟩⟩
      clear F hblk hbel
      go_simp
  · intro v w hG hR
    obtain ⟨hbel, hblk⟩ := hR
    simp only [List.take_succ_cons, List.take_zero, List.drop_succ_cons, List.drop_zero, List.map_cons, List.map_nil, puts, Nat.zero_add, Nat.reduceAdd]
    go_frame
    obtain ⟨d, hx8, ho8⟩ := hG 8 (by omega)
    obtain ⟨p, hx9, hpB, hp9⟩ := hG 9 (by omega)
    have ho9 := ho8
    obtain ⟨Ad, cd, hvd, hrd⟩ := ho8
    rw [be_length] at hvd
    subst hvd
    rw [hx8, hx9]
    have ho8 := ho9
    clear ho9 hrd
    have q0 := hp9.cell 0
    have q1 := hp9.cell 1
    have qz := hp9.frozen 0
    have qz1 := hp9.frozen 1
    simp only [List.getElem?_cons_zero, List.getElem?_cons_succ] at q0 q1
    have HQ := Lib.hid hp9
    have HO := Lib.hid ho8
    have HBL := Lib.hid hblk
    have HBE := Lib.hid hbel
    clear hG hx8 hx9 hp9 ho8 hblk hbel HCC HXX v0 v1
    go_upto_region 3 with (fail)
    obtain ⟨w3, hw3⟩ : ∃ w3, w3 = (w.setCell ⟨p, 0, none⟩ (.int .i64 C)).setCell ⟨p, 1, none⟩ (.slice Ad Z cd) := ⟨_, rfl⟩
    rw [← hw3]
    have hne : p ≠ W.heap.size := HQ.out.ne_ HBL.out (by decide)
    have hg3 : w.grownBy w3 (some p) := by rw [hw3]; exact grownV_trans (grown_set w p 0 _) (grown_set _ p 1 _)
    have hp3 : Blk w3 p 118 [.int .i64 C, .slice Ad Z cd] := by rw [hw3]; exact (HQ.out.set_ 0 _).set_ 1 _
    have hv3 := HBL.out.grown hg3 (fun e => hne (by injection e with e; exact e.symm))
    have ho3 := HO.out.keptg HQ.out (by decide) hg3
    have hb3 : Below W.heap.size W w3 := HBE.out.grown hg3 HBE.out.size (fun j hj => by injection hj with hj; omega)
    have x0 := hp3.cell 0
    have x1 := hp3.cell 1
    have y0 := hv3.cell 0
    simp only [List.getElem?_cons_zero, List.getElem?_cons_succ] at x0 x1 y0
    have hz3 : W.heap.size < w3.heap.size := hv3.lt
    have HP3 := Lib.hid hp3
    have HV3 := Lib.hid hv3
    have HO3 := Lib.hid ho3
    have HB3 := Lib.hid hb3
    clear hw3 hg3 hp3 hv3 ho3 hb3 q0 q1 qz qz1 HQ HO HBL HBE
    obtain ⟨w4, hw4⟩ : ∃ w4, w4 = w3.alloc (.cells #[.int .i64 C, .slice Ad Z cd] 118) := ⟨_, rfl⟩
    obtain ⟨g6, hg6⟩ : ∃ g6, w3.heap.size = g6 := ⟨_, rfl⟩
    have hp4 : PcsW w4 W.heap.size [(C, be u Z)] (.slice (some ⟨g6, 0, none⟩) 1 1) := by rw [hw4, ← hg6]; exact pcsW_one _ _ (C, be u Z) _ HB3.out.size HO3.out
    have hb4 : Below W.heap.size W w4 := by rw [hw4]; exact HB3.out.alloc HB3.out.size _
    have hv4 : Blk w4 W.heap.size 25 [.int .i64 k, .int .u64 u, .string s, .slice A0 n0 c0, .int .i64 o, .slice A1 n1 c1] := by rw [hw4]; exact HV3.out.alloc _
    have hz4 := hv4.lt
    have y4 := hv4.cell 0
    simp only [List.getElem?_cons_zero] at y4
    have HP4 := Lib.hid hp4
    have HB4 := Lib.hid hb4
    have HV4 := Lib.hid hv4
    have HW4 := Lib.hid hw4
    have HG6 := Lib.hid hg6
    clear hp4 hb4 hv4 hw4 hg6
    by_cases hlt : -128 ≤ wrap64 u ∧ wrap64 u < 128
    · have hd : decide (-128 ≤ wrap64 u) = true := decide_eq_true hlt.1
      have hd2 : decide (wrap64 u < 128) = true := decide_eq_true hlt.2
      go_upto_region 14 with (fail)
      rw [← HW4.out, HG6.out]
      clear x0 x1 y0 hz3 HP3 HV3 HO3 HB3 hpB hne
      have HVD : Hid (Blk w4.drew W.heap.size 25 [.int .i64 k, .int .u64 u, .string s, .slice A0 n0 c0, .int .i64 o, .slice A1 n1 c1]) := Lib.hid ((HV4.out).drewN 1)
      have HBD : Hid (Below W.heap.size W w4.drew) := Lib.hid (below_drewN (HB4.out) 1)
      have HPD : Hid (PcsW w4.drew W.heap.size [(C, be u Z)] (.slice (some ⟨g6, 0, none⟩) 1 1)) := Lib.hid (PcsW.below (HP4.out) (Below.refl _ _).drew)
      refine region_front 12 (G8 W.heap.size W.heap.size k 85 u [(C, be u Z)] (.slice (some ⟨g6, 0, none⟩) 1 1)) (fun l v w => MpR w4.drew [(1, 8, 84), (2, 9, 85)] 3 l v w) EC (by kernel_rfl) (by kernel_rfl) (by kernel_rfl) (by kernel_rfl) (by decide) (by kernel_rfl) (by kernel_rfl) (G8_keep _ _ _ _ _ _ _) (MpR.start _ _ _ _ _) ?_ ?_
      · intro i hi li v a w inv F hr
        have hR := F.res
        have hun := (mem_ready.1 hr).1
        have hblk := HVD.out.below hR.bel HVD.out.lt
        have t1 : a.tmps.getD 1 undef = .pointer (some ⟨W.heap.size, 0, none⟩) := F.oldv (s := 1) (by kernel_rfl)
        have t3 : a.tmps.getD 3 undef = .int .u64 u := F.oldv (s := 3) (by kernel_rfl)
        have t6 : a.tmps.getD 6 undef = (.slice (some ⟨g6, 0, none⟩) 1 1) := F.oldv (s := 6) (by kernel_rfl)
        rcases (show i = 0 ∨ i = 1 ∨ i = 2 ∨ i = 3 ∨ i = 4 ∨ i = 5 ∨ i = 6 ∨ i = 7 ∨ i = 8 ∨ i = 9 ∨ i = 10 ∨ i = 11 by omega) with rfl | rfl | rfl | rfl | rfl | rfl | rfl | rfl | rfl | rfl | rfl | rfl
        · exact ⟨_, rfl, rfl, hR.make (G8 W.heap.size W.heap.size k 85 u [(C, be u Z)] (.slice (some ⟨g6, 0, none⟩) 1 1)) (fun _ _ => trivial) hun (by decide) (by decide) 158 rfl⟩
        · obtain ⟨r0, -⟩ := F.slot (d := 0) (s := 61) hr (by kernel_rfl) (by omega) (by kernel_rfl)
          have hmj : li.getD 3 false = false := by
            cases hb : li.getD 3 false with
            | false => rfl
            | true =>
              have h1 := closed_of inv (j := 3) (d := 1) (by kernel_rfl) hb
              rw [getD_both hun] at h1
              cases h1
          exact ⟨_, rfl, rfl, hR.insert (G8 W.heap.size W.heap.size k 85 u [(C, be u Z)] (.slice (some ⟨g6, 0, none⟩) 1 1)) (fun _ _ => trivial) hun (by decide) (by decide) hmj (by decide) (dep_of (d := 0) (by kernel_rfl) hr) (.tmp 61) (.const (.int .i64 8)) (.const (.int .i64 84)) rfl rfl 8 84 rfl rfl r0 (by decide) (by decide) (by decide) (by omega) (by omega)⟩
        · obtain ⟨r0, -⟩ := F.slot (d := 0) (s := 61) hr (by kernel_rfl) (by omega) (by kernel_rfl)
          have hmj : li.getD 3 false = false := by
            cases hb : li.getD 3 false with
            | false => rfl
            | true =>
              have h1 := closed_of inv (j := 3) (d := 2) (by kernel_rfl) hb
              rw [getD_both hun] at h1
              cases h1
          exact ⟨_, rfl, rfl, hR.insert (G8 W.heap.size W.heap.size k 85 u [(C, be u Z)] (.slice (some ⟨g6, 0, none⟩) 1 1)) (fun _ _ => trivial) hun (by decide) (by decide) hmj (by decide) (dep_of (d := 0) (by kernel_rfl) hr) (.tmp 61) (.const (.int .i64 9)) (.const (.int .i64 85)) rfl rfl 9 85 rfl rfl r0 (by decide) (by decide) (by decide) (by omega) (by omega)⟩
        · obtain ⟨r0, -⟩ := F.slot (d := 0) (s := 61) hr (by kernel_rfl) (by omega) (by kernel_rfl)
          refine ⟨_, rfl, rfl, oper_plain (v 0) (w' := w) ?_ ⟨_, rfl, EC.of_below (Below.refl _ _), trivial, hR.move (dep_of (d := 0) (by kernel_rfl) hr) (by decide) (by decide)⟩⟩
          clear F hblk hR inv hr hun
          go_simp
        · obtain ⟨e1, e2⟩ := step_next hR (Below.refl _ _) 4 (by decide) (by decide) (by decide) (by decide) (.pointer (some ⟨W.heap.size, 0, none⟩))
          refine ⟨_, rfl, rfl, oper_plain (.pointer (some ⟨W.heap.size, 0, none⟩)) (w' := w) ?_ ⟨_, rfl, e1, rfl, e2⟩⟩
          clear F hblk hR inv hr hun e1 e2
          go_simp
        · obtain ⟨r0, g0⟩ := F.slot (d := 4) (s := 63) hr (by kernel_rfl) (by omega) (by kernel_rfl)
          have h1 : a.tmps.getD 63 undef = .pointer (some ⟨W.heap.size, 0, none⟩) := r0.trans g0
          have hc := hblk.cell 0
          simp only [List.getElem?_cons_zero] at hc
          obtain ⟨e1, e2⟩ := step_next hR (Below.refl _ _) 5 (by decide) (by decide) (by decide) (by decide) (.int .i64 k)
          refine ⟨_, rfl, rfl, oper_plain (.int .i64 k) (w' := w) ?_ ⟨_, rfl, e1, rfl, e2⟩⟩
          clear F hblk hR inv hr hun e1 e2 r0 g0
          go_simp
        · obtain ⟨r0, -⟩ := F.slot (d := 3) (s := 62) hr (by kernel_rfl) (by omega) (by kernel_rfl)
          obtain ⟨r1, g1⟩ := F.slot (d := 5) (s := 64) hr (by kernel_rfl) (by omega) (by kernel_rfl)
          have h2 : a.tmps.getD 64 undef = .int .i64 k := r1.trans g1
          have h3d : li.getD 3 false = true := dep_of (d := 3) (by kernel_rfl) hr
          obtain ⟨b, hvb, hlk⟩ := hR.look h3d (fun p hp => by
            have h1 := closed_of inv (j := 3) (d := 1) (by kernel_rfl) h3d
            have h2 := closed_of inv (j := 3) (d := 2) (by kernel_rfl) h3d
            simp only [List.mem_cons, List.mem_nil_iff, or_false] at hp
            rcases hp with rfl | rfl
            · exact h1
            · exact h2) (by decide) k 85 HKK.out (HLK8.out)
          have h1 : a.tmps.getD 62 undef = .map (some b) := r0.trans hvb
          obtain ⟨e1, e2⟩ := step_next hR (Below.refl _ _) 6 (by decide) (by decide) (by decide) (by decide) (.int .i64 85)
          refine ⟨_, rfl, rfl, oper_plain (.int .i64 85) (w' := w) ?_ ⟨_, rfl, e1, rfl, e2⟩⟩
          clear F hblk hR inv hr hun e1 e2 r0 r1 g1 hvb
          go_simp
        · obtain ⟨e1, e2⟩ := step_next hR (Below.refl _ _) 7 (by decide) (by decide) (by decide) (by decide) (.int .u64 u)
          refine ⟨_, rfl, rfl, oper_plain (.int .u64 u) (w' := w) ?_ ⟨_, rfl, e1, rfl, e2⟩⟩
          clear F hblk hR inv hr hun e1 e2
          go_simp
        · obtain ⟨r0, g0⟩ := F.slot (d := 7) (s := 66) hr (by kernel_rfl) (by omega) (by kernel_rfl)
          have h1 : a.tmps.getD 66 undef = .int .u64 u := r0.trans g0
          refine ⟨_, rfl, rfl, oper_call 98 #[.int .u64 u, .int .i64 1] ?_ ((big_calls2 w u 1 hu0 hu1 (by omega)).mono ?_)⟩
          · clear F hblk hR inv hr hun r0 g0
            go_simp
          · rintro e w' ⟨Ab, cb, rfl, hob, hb⟩
            obtain ⟨e1, e2⟩ := step_next hR hb 8 (by decide) (by decide) (by decide) (by decide) (.slice Ab 1 cb)
            exact ⟨_, rfl, _, rfl, e1, (OwnB.of_own hob (be_length _ _)).lower (Nat.le_trans HBD.out.size hR.bel.size), e2⟩
        · obtain ⟨r0, g0⟩ := F.slot (d := 6) (s := 65) hr (by kernel_rfl) (by omega) (by kernel_rfl)
          obtain ⟨r1, g1⟩ := F.slot (d := 8) (s := 67) hr (by kernel_rfl) (by omega) (by kernel_rfl)
          have h1 : a.tmps.getD 65 undef = .int .i64 85 := r0.trans g0
          have h2 : a.tmps.getD 67 undef = v 8 := r1
          obtain ⟨e1, e2⟩ := step_next hR (Below.refl _ _) 9 (by decide) (by decide) (by decide) (by decide) (.agg #[.int .i64 85, v 8])
          refine ⟨_, rfl, rfl, oper_plain (.agg #[.int .i64 85, v 8]) (w' := w) ?_ ⟨_, rfl, e1, ⟨v 8, rfl, (show OwnB _ _ _ _ from g1)⟩, e2⟩⟩
          obtain ⟨Ad, cd, hvd, _⟩ := g1
          rw [hvd] at h2 ⊢
          clear F hblk hR inv hr hun e1 e2 r0 g0 r1 hvd
          rw [Array.getD_eq_getD_getElem?] at h1 h2
          go_simp
        · obtain ⟨r0, g0⟩ := F.slot (d := 9) (s := 68) hr (by kernel_rfl) (by omega) (by kernel_rfl)
          obtain ⟨d, hd, hod⟩ := g0
          have hod' := hod
          obtain ⟨Ad, cd, hvd, _⟩ := hod'
          rw [be_length] at hvd
          rw [hvd] at hd hod
          have h1 : a.tmps.getD 68 undef = .agg #[.int .i64 85, .slice Ad 1 cd] := r0.trans hd
          have hwB : W.heap.size ≤ w.heap.size := Nat.le_trans HBD.out.size hR.bel.size
          obtain ⟨e1, e2⟩ := step_next hR ((Below.refl _ w).alloc (Nat.le_refl _) (.cells #[.int .i64 85, .slice Ad 1 cd] 118)) 10 (by decide) (by decide) (by decide) (by decide) (.slice (some ⟨w.heap.size, 0, none⟩) 1 1)
          refine ⟨_, rfl, rfl, oper_plain (.slice (some ⟨w.heap.size, 0, none⟩) 1 1) (w' := w.alloc (.cells #[.int .i64 85, .slice Ad 1 cd] 118)) ?_ ⟨_, rfl, e1, pcsW_one w _ (85, be u 1) _ hwB hod, e2⟩⟩
          clear F hblk hR inv hr hun e1 e2 r0 hd hod hvd
          rw [Array.getD_eq_getD_getElem?] at h1
          go_simp
        · obtain ⟨e1, e2⟩ := step_next hR (Below.refl _ _) 11 (by decide) (by decide) (by decide) (by decide) ((.slice (some ⟨g6, 0, none⟩) 1 1))
          refine ⟨_, rfl, rfl, oper_plain ((.slice (some ⟨g6, 0, none⟩) 1 1)) (w' := w) ?_ ⟨_, rfl, e1, ⟨rfl, HPD.out.below (hR.bel)⟩, e2⟩⟩
          clear F hblk hR inv hr hun e1 e2
          go_simp
      · intro v w hG hR
        have hbel := hR.bel
        simp only [List.take_succ_cons, List.take_zero, List.drop_succ_cons, List.drop_zero, List.map_cons, List.map_nil, puts, Nat.zero_add, Nat.reduceAdd]
        go_frame
        have h10 : PcsW w W.heap.size [(85, be u 1)] (v 10) := hG 10 (by omega)
        obtain ⟨h11, h12⟩ := hG 11 (by omega)
        have hvb := HVD.out.below hbel HVD.out.lt
        have hbw : Below W.heap.size W w := HBD.out.trans (hbel.mono HBD.out.size)
        rw [h11]
        have H10 := Lib.hid h10
        have H12 := Lib.hid h12
        have HVB := Lib.hid hvb
        have HBW := Lib.hid hbw
        clear hG hR h10 h12 hvb hbw hbel
        go_upto_region 15 with (
            (at_builtin)
            go_must (
              (refine wpList_append_P rfl (.tmp 69) (.tmp 70) rfl rfl rfl H10.out H12.out HBW.out.size (by simp) ?_)
              intro A9 c9 w9 HPW9 HGR9
              obtain ⟨Ax, cx, Sx, hxv, hxs, hxo, hxd⟩ := H10.out
              have hv9 := HVB.out.grown HGR9.out (fun e => own_neH hxo HVB.out (by decide) e.symm)
              have hb9 : Below W.heap.size W w9 := HBW.out.grown HGR9.out HBW.out.size (fun j hj => (hxo.lt j hj).1)
              have HV9 := Lib.hid hv9
              have HB9 := Lib.hid hb9
              have hz9 := hv9.lt
              clear hxv hxs hxo hxd hv9 hb9 HGR9 H10 H12 HVB HBW))
        go_wp2
        go_ret
        exact ⟨_, rfl, by (try rw [if_pos hlt]); exact HPW9.out, HB9.out⟩
    · by_cases hlo : -128 ≤ wrap64 u
      · have hd : decide (-128 ≤ wrap64 u) = true := decide_eq_true hlo
        have hd2 : decide (wrap64 u < 128) = false := decide_eq_false (fun h => hlt ⟨hlo, h⟩)
        go_wp2
        go_ret
        exact ⟨_, rfl, by (try rw [if_neg hlt]); (have h9 := HP4.out); rw [HW4.out, ← HG6.out] at h9; exact h9, by rw [← HW4.out]; exact HB4.out⟩
      · have hd : decide (-128 ≤ wrap64 u) = false := decide_eq_false hlo
        go_wp2
        go_ret
        exact ⟨_, rfl, by (try rw [if_neg hlt]); (have h9 := HP4.out); rw [HW4.out, ← HG6.out] at h9; exact h9, by rw [← HW4.out]; exact HB4.out⟩
end Go.Proofs.YtjjhckbidcdkcaaDoor

namespace Go.Proofs.YtjjhckbidcdkcaaDoor
open Go.RowKit
set_option linter.unusedVariables false

theorem wrap_i64 (u : Int) : IntKind.i64.wrap u = wrap64 u := by
  simp [IntKind.wrap, IntKind.bits, IntKind.signed, wrap64]
  split <;> omega
theorem numL_plain {k : Int} (u : Int) (h4 : k ≠ 4) (h5 : k ≠ 5) (h8 : k ≠ 8) (h9 : k ≠ 9) : numL k u = [(cod k, be u (fsz k).toNat)] := by
  unfold numL
  simp only
  rw [if_neg (by omega), if_neg (by omega)]
theorem fsz_num (k : Int) (h2 : 2 ≤ k) (h16 : k ≤ 16) (h14 : k ≠ 14) : ∃ Z : Nat, fsz k = (Z : Int) ∧ Z ≤ 8 := by
  rcases (show k = 2 ∨ k = 3 ∨ k = 4 ∨ k = 5 ∨ k = 6 ∨ k = 7 ∨ k = 8 ∨ k = 9 ∨ k = 10 ∨ k = 11 ∨ k = 12 ∨ k = 13 ∨ k = 15 ∨ k = 16 by omega) with rfl | rfl | rfl | rfl | rfl | rfl | rfl | rfl | rfl | rfl | rfl | rfl | rfl | rfl
  · exact ⟨1, by decide, by decide⟩
  · exact ⟨2, by decide, by decide⟩
  · exact ⟨4, by decide, by decide⟩
  · exact ⟨8, by decide, by decide⟩
  · exact ⟨1, by decide, by decide⟩
  · exact ⟨2, by decide, by decide⟩
  · exact ⟨4, by decide, by decide⟩
  · exact ⟨8, by decide, by decide⟩
  · exact ⟨4, by decide, by decide⟩
  · exact ⟨8, by decide, by decide⟩
  · exact ⟨4, by decide, by decide⟩
  · exact ⟨8, by decide, by decide⟩
  · exact ⟨4, by decide, by decide⟩
  · exact ⟨8, by decide, by decide⟩
theorem nb_all (B : Nat) (k u o : Int) (s : ByteArray) (n : Bool → Nat) (f : Bool → Nat → VT) (h2 : 2 ≤ k) (h16 : k ≤ 16) (h14 : k ≠ 14) : NB B (.mk k u s o n f) := by
  intro W A c h hB
  obtain ⟨hwf, -⟩ := h.open_
  have hu0 : 0 ≤ u := hwf.2.2.1
  have hu1 : u ≤ 18446744073709551615 := hwf.2.2.2.1
  obtain ⟨Z, hZ, hZ8⟩ := fsz_num k h2 h16 h14
  unfold vV
  simp only [VT.k, VT.u, VT.s, VT.o, VT.n]
  by_cases e4 : k = 4
  · have hn : numL k u = (if u = 0 then [(67, [])] else []) ++ (if u < 256 then [(82, be u 1)] else []) ++ [(cod k, be u Z)] := by
      unfold numL
      simp only
      rw [if_pos (.inl e4), if_pos e4, if_pos e4, hZ]
      rfl
    rw [hn]
    exact numbered_4 W k u o s _ _ _ _ _ _ hu0 hu1 e4 Z hZ hZ8 _ rfl
  by_cases e5 : k = 5
  · have hn : numL k u = (if u = 0 then [(68, [])] else []) ++ (if u < 256 then [(83, be u 1)] else []) ++ [(cod k, be u Z)] := by
      unfold numL
      simp only
      rw [if_pos (.inr e5), if_neg e4, if_neg e4, hZ]
      rfl
    rw [hn]
    exact numbered_5 W k u o s _ _ _ _ _ _ hu0 hu1 e5 Z hZ hZ8 _ rfl
  by_cases e8 : k = 8
  · have hn : numL k u = (if -128 ≤ wrap64 u ∧ wrap64 u < 128 then [(84, be u 1)] else []) ++ [(cod k, be u Z)] := by
      unfold numL
      simp only
      rw [if_neg (by omega), if_pos (.inl e8), if_pos e8, hZ, wrap_i64]
      rfl
    rw [hn]
    exact numbered_8 W k u o s _ _ _ _ _ _ hu0 hu1 e8 Z hZ hZ8 _ rfl
  by_cases e9 : k = 9
  · have hn : numL k u = (if -128 ≤ wrap64 u ∧ wrap64 u < 128 then [(85, be u 1)] else []) ++ [(cod k, be u Z)] := by
      unfold numL
      simp only
      rw [if_neg (by omega), if_pos (.inr e9), if_neg e8, hZ, wrap_i64]
      rfl
    rw [hn]
    exact numbered_9 W k u o s _ _ _ _ _ _ hu0 hu1 e9 Z hZ hZ8 _ rfl
  rw [numL_plain u e4 e5 e8 e9, hZ]
  exact numbered_plain W k u o s _ _ _ _ _ _ hu0 hu1 h2 h16 e4 e5 e8 e9 h14 Z hZ hZ8 _ rfl
/-- PutValue at any value that fits. -/
theorem putValue_calls (B gf : Nat) (sh : Bool) (hgf : B ≤ gf) (T : VT) (hF : FitsV T) (hc : T.cnt ≤ 500) : PV B gf sh T := (q_all B gf sh hgf (nb_all B) T hF hc (fun _ => trivial)).1
end Go.Proofs.YtjjhckbidcdkcaaDoor
