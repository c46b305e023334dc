/- The reference's reader of JSON: a whole number. PRINTED by wip/genjd.py. -/
import Derived.Test.YtikpmeedjdddoaaDoorJc
import Derived.OwnWalk
namespace Go.Proofs.YtikpmeedjdddoaaDoor
open Go.RowKit
set_option linter.unusedVariables false

theorem results_cell0 {P : Program} {fn : Func} {p : Tmp} {ty : TypeId} (h : fn.results = #[.cell p ty]) {tmps : Array Value} {w : World} {g : Nat} {cs : List Value} (d : TypeDesc)
    (hp : tmps.getD p undef = .pointer (some ⟨g, 0, none⟩)) (hg : Blk w g ty cs) (hu : P.underlying ty = some d) (hd : (match d with | .struct _ | .array _ _ => true | _ => false) = true) (hi : (P.info? ty).map (·.size) = some cs.length) :
    (results fn tmps).run P w = .ok (.agg cs.toArray) w := by
  have hp' : tmps[p]?.getD undef = .pointer (some ⟨g, 0, none⟩) := by simpa using hp
  simp [results, h, hp', asAddr, run_loadVar_row w g ty ty cs.toArray (0, 0) d hg hu hd (by simpa using hi)]

theorem grownJ_far {a b : World} {row : Option Nat} (h : a.grownBy b row) {p : Nat} (hp : a.heap.size ≤ p) (i : Nat) (v : Value) : a.grownBy (b.setCell ⟨p, i, none⟩ v) row :=
  ⟨h.os, h.tape, h.output, by simpa using h.size, fun j hj hr => (heap_setCell_other b ⟨p, i, none⟩ j v (by simp; omega)).trans (h.block j hj hr)⟩
theorem grownJ_far5 {a b : World} {row : Option Nat} (h : a.grownBy b row) {p : Nat} (hp : a.heap.size ≤ p) (x0 x1 x2 x3 x4 : Value) : a.grownBy (((((b.setCell ⟨p, 0, none⟩ x0).setCell ⟨p, 1, none⟩ x1).setCell ⟨p, 2, none⟩ x2).setCell ⟨p, 3, none⟩ x3).setCell ⟨p, 4, none⟩ x4) row :=
  grownJ_far (grownJ_far (grownJ_far (grownJ_far (grownJ_far h hp 0 x0) hp 1 x1) hp 2 x2) hp 3 x3) hp 4 x4
theorem far_set5J {W : World} {g p : Nat} {t : TypeId} {cs : List Value} (h : Blk W g t cs) (hp : g ≠ p) (a b c d e : Value) : Blk (((((W.setCell ⟨p, 0, none⟩ a).setCell ⟨p, 1, none⟩ b).setCell ⟨p, 2, none⟩ c).setCell ⟨p, 3, none⟩ d).setCell ⟨p, 4, none⟩ e) g t cs :=
  ((((h.far hp a).far hp b).far hp c).far hp d).far hp e
theorem getD_mid (P ds R : List Int) (i : Nat) (h : i < ds.length) : (P ++ (ds ++ R)).getD (P.length + i) 0 = ds.getD i 0 := by
  rw [List.getD_eq_getElem?_getD, List.getD_eq_getElem?_getD, List.getElem?_append_right (by omega), Nat.add_sub_cancel_left, List.getElem?_append_left h]
theorem getD_end (P ds R : List Int) (c : Int) : (P ++ (ds ++ c :: R)).getD (P.length + ds.length) 0 = c := by
  rw [List.getD_eq_getElem?_getD, List.getElem?_append_right (by omega), Nat.add_sub_cancel_left, List.getElem?_append_right (by omega), Nat.sub_self]
  rfl

set_option maxHeartbeats 2000000 in
set_option maxRecDepth 100000 in
theorem word_minus (w : World) (g k : Nat) (s : ByteArray) (T : List Int) (hs : StrJ s T) (h : JB w g s k) (hk : k < T.length) (hc : T.getD k 0 = 45) :
    Calls Tryd.prog 30 #[.pointer (some ⟨g, 0, none⟩), .string ⟨#[45]⟩] w fun e w' => e = .returned (.bool true) ∧ JB w' g s ((k + 1 : Nat) : Int) ∧ w.grownBy w' (some g) := by
  have hs1 := hs.1
  have hs2 := hs.2.1
  have hbyte := (hs.2.2 k hk).2.2
  rw [hc] at hbyte
  have r0 := h.cell 0
  have r1 := h.cell 1
  have f1 := h.frozen 1
  simp only [List.getElem?_cons_zero, List.getElem?_cons_succ] at r0 r1
  have H := Lib.hid h
  have hz : (⟨#[45]⟩ : ByteArray).size = 1 := rfl
  have hw1 : IntKind.i64.wrap ((s.size : Int) - (k : Int)) = (s.size : Int) - (k : Int) := by rw [IntKind.wrap_i64]; omega
  have hw2 : IntKind.i64.wrap ((k : Int) + 1) = (k : Int) + 1 := by rw [IntKind.wrap_i64]; omega
  have d0 : decide ((1 : Int) ≤ (s.size : Int) - (k : Int)) = true := decide_eq_true (by omega)
  obtain ⟨s1, hs1e⟩ : ∃ s1, s1 = s.extract k (k + 1) := ⟨_, rfl⟩
  have hsl : ∀ W : World, (Instr.slice 9 (.string s) (some (.int .i64 (k : Int))) (some (.int .i64 ((k : Int) + 1))) none).run Tryd.prog W = .ok (.string s1) W := fun W => by
    rw [run_slice_string W _ s .i64 .i64 k ((k : Int) + 1) Tryd.underlying9 (by omega) (by omega) (by omega), hs1e]
    congr 3
  have hne : (s1.toList == ([45] : List UInt8)) = true := by
    rw [beq_iff_eq, ByteArray.toList_eq, hs1e]
    have hd : k < s.data.toList.length := by have e : s.size = s.data.size := rfl; simp; omega
    rw [show (s.extract k (k + 1)).data.toList = (s.data.toList.drop k).take (k + 1 - k) by simp [ByteArray.data_extract]]
    rw [show k + 1 - k = 1 by omega, List.drop_eq_getElem_cons hd]
    show [s.data.toList[k]] = [45]
    have e : s.data.toList.getD k 0 = s.data.toList[k] := by rw [List.getD_eq_getElem?_getD, List.getElem?_eq_getElem hd]; rfl
    rw [e] at hbyte
    congr 1
    exact UInt8.toNat_inj.1 (by show _ = 45; omega)
  clear hs h hc hbyte hs1e hs1 hs2 hk hz
  go_enter Tryd.func30, Tryd.ntmps30
  go_wp2
  go_quiet (fail)
  go_wp2
  go_ret
  exact ⟨rfl, ((H.out.drewN _).set_ 1 _), grownJ_trans (grownJ_drewN (grownJ_refl _ _) _) (grownJ_set _ _ _ _)⟩

set_option maxHeartbeats 4000000 in
set_option maxRecDepth 100000 in
theorem number_pos (w : World) (g : Nat) (s : ByteArray) (T : List Int) (hs : StrJ s T) (u : Nat) (hu : u ≤ 4294967296) (pre post : List Int) (c : Int) (hT : T = pre ++ (digs u ++ c :: post)) (h : JB w g s (pre.length : Int)) (hc : c = 44 ∨ c = 93) :
    Calls Tryd.prog 33 #[.pointer (some ⟨g, 0, none⟩)] w fun e w' => e = .returned (.agg #[.int .i64 3, .int .u64 (u : Int), .string ⟨#[]⟩, .int .i64 0, .slice none 0 0]) ∧ JB w' g s ((pre.length + (digs u).length : Nat) : Int) ∧ w.grownBy w' (some g) := by
  obtain ⟨w1, hw1e⟩ : ∃ w1, w1 = w.alloc (.cells #[.int .i64 0, .int .u64 0, .string ⟨#[]⟩, .int .i64 0, .slice none 0 0] 28) := ⟨_, rfl⟩
  have hgw := h.lt
  have HJ1 : Hid (JB w1 g s (pre.length : Int)) := by rw [hw1e]; exact h.alloc _
  have HP1 : Hid (Blk w1 w.heap.size 28 [.int .i64 0, .int .u64 0, .string ⟨#[]⟩, .int .i64 0, .slice none 0 0]) := by rw [hw1e]; exact Blk.new w _ [_, _, _, _, _]
  have HG1 : Hid (w.grownBy w1 (some g)) := by rw [hw1e]; exact World.grownBy_alloc _ _ _
  have hT2 : T = pre ++ (digs u ++ c :: post) := hT
  obtain ⟨P, hP⟩ : ∃ P, P = pre := ⟨_, rfl⟩
  rw [← hP] at hT2
  have hPl : P.length = pre.length := by rw [hP]
  have hfst : T.getD pre.length 0 = (digs u).getD 0 0 := by
    rw [hT]; have := getD_mid pre (digs u) (c :: post) 0 (digs_pos u); rwa [Nat.add_zero] at this
  have hdg := digs_all u ((digs u).getD 0 0) (by have := digs_pos u; simp [List.getD, this])
  have hwd := word_no w1 g pre.length s ⟨#[45]⟩ T hs (by rw [hw1e]; exact (h.alloc _)) (by rw [hT]; have := digs_pos u; simp only [List.length_append, List.length_cons]; omega) _ 45 hfst (by omega) (by decide) (by decide) rfl
  have hs1 := hs.1
  have hs2 := hs.2.1
  have hn0 := digs_pos u
  have hds := digs_all u
  have hhd := digs_head u
  have hdv := dv_digs u
  have hTl : P.length + (digs u).length < T.length := by rw [hT2]; simp
  have hmid := fun i (hi : i < (digs u).length) => (congrArg (fun t => t.getD (P.length + i) 0) hT2).trans (getD_mid P (digs u) (c :: post) i hi)
  have hend := (congrArg (fun t => t.getD (P.length + (digs u).length) 0) hT2).trans (getD_end P (digs u) post c)
  have hTls : P.length + (digs u).length < s.size := by omega
  have HS := Lib.hid hs
  have HWD := Lib.hid hwd
  have HW1 := Lib.hid hw1e
  have hstep := dv_le (digs u) hds
  obtain ⟨ds, hdse⟩ : ∃ ds, ds = digs u := ⟨_, rfl⟩
  rw [← hdse] at hn0 hds hhd hdv hTl hmid hend hTls hstep ⊢
  obtain ⟨n, hne⟩ : ∃ n, n = ds.length := ⟨_, rfl⟩
  obtain ⟨fr, hfr⟩ : ∃ fr, fr = P.length := ⟨_, rfl⟩
  rw [← hne] at hn0 hhd hTl hmid hend hTls ⊢
  rw [← hfr] at hTl hmid hend hTls hPl
  have hfrb : fr + n ≤ 100000 := by omega
  have HDS := Lib.hid hds
  have HHD := Lib.hid hhd
  have HDV := Lib.hid hdv
  have HMID := Lib.hid hmid
  have HEND := Lib.hid hend
  have HTL := Lib.hid (And.intro hTl hTls)
  have HSTEP := Lib.hid hstep
  have HN := Lib.hid hne
  have HFR := Lib.hid hfr
  have HPL := Lib.hid hPl
  clear hs h hwd hw1e hT hT2 hs1 hs2 hds hhd hdv hmid hend hTl hTls hstep hne hfr hPl hP hdse hfst hdg
  go_enter Tryd.func33, Tryd.ntmps33
  go_wp2_with (
    (go_at_call 30)
    go_must (
      rw [← HW1.out]
      (refine HWD.out.mono ?_)
      rintro e w2 ⟨rfl, nd, hw2e⟩
      have HJ2 : Hid (JB w2 g s (P.length : Int)) := by rw [← HFR.out, HPL.out, hw2e]; exact HJ1.out.drewN _
      have HG2 : Hid (w1.grownBy w2 (some g)) := by rw [hw2e]; exact grownJ_drewN (grownJ_refl _ _) _
      clear hw2e
      rw [← HFR.out] at HJ2
      have r0 := HJ2.out.cell 0
      have r1 := HJ2.out.cell 1
      simp only [List.getElem?_cons_zero, List.getElem?_cons_succ] at r0 r1))
  clear r0 r1
  go_loopw [5] (fun v wr => ∃ i : Nat, i ≤ n ∧ v = .int .u64 (dv (ds.take i)) ∧ Hid (JB wr g s ((fr + i : Nat) : Int) ∧ w2.grownBy wr (some g))) (fun _ wr => fr + n - (intOf ((wr.cell? ⟨g, 1, none⟩).getD undef)).toNat)
  case atStart => exact ⟨0, Nat.zero_le _, by simp [dv], HJ2.out, grownJ_refl _ _⟩
  case round =>
    obtain ⟨i, hi, rfl, hst⟩ := hrel
    have hstp := HSTEP.out i
    obtain ⟨q, hq⟩ : ∃ q, q = fr + i := ⟨_, rfl⟩
    rw [← hq] at hst
    have hqb : q ≤ 100000 := by omega
    have r0 := hst.out.1.cell 0
    have r1 := hst.out.1.cell 1
    have f1 := hst.out.1.frozen 1
    simp only [List.getElem?_cons_zero, List.getElem?_cons_succ] at r0 r1
    obtain ⟨U, hU⟩ : ∃ U, U = dv (ds.take i) := ⟨_, rfl⟩
    rw [← hU] at hstp ⊢
    have hU0 := hstp.1
    have hU1 : U ≤ 4294967296 := by have := hstp.2.2; have := HDV.out; omega
    have d0 : decide ((q : Int) < (s.size : Int)) = true := decide_eq_true (by have := HTL.out.2; omega)
    have dn0 : decide (q < s.size) = true := decide_eq_true (by have := HTL.out.2; omega)
    by_cases hlt : i < n
    · obtain ⟨b, hb⟩ : ∃ b, b = ds.getD i 0 := ⟨_, rfl⟩
      have hix := HS.out.index (i := q) (b := b) (by have := HTL.out.1; omega) (by rw [hq, hb]; exact HMID.out i hlt)
      have hbd := HDS.out b (by rw [hb]; have : i < ds.length := by rw [← HN.out]; exact hlt
                                simp [List.getD, this])
      have hnx := hstp.2.1 (by rw [← HN.out]; exact hlt)
      rw [← hb] at hnx
      obtain ⟨hb0, hb1⟩ := hbd
      have d1 : decide ((48 : Int) ≤ b) = true := decide_eq_true hb0
      have d2 : decide (b ≤ (57 : Int)) = true := decide_eq_true hb1
      obtain ⟨dd, hdd⟩ : ∃ dd, dd = b - 48 := ⟨_, rfl⟩
      have w0 : IntKind.u8.wrap (b - 48) = dd := by rw [IntKind.wrap_u8, hdd]; omega
      have w1' : IntKind.u64.wrap dd = dd := by rw [IntKind.wrap_u64]; omega
      have HNX := Lib.hid hnx
      have HDD := Lib.hid hdd
      have HU := Lib.hid hU
      have HQ := Lib.hid hq
      have hdr : 0 ≤ dd ∧ dd ≤ 9 := by omega
      obtain ⟨hd0, hd9⟩ := hdr
      clear hnx hdd hU hq hb hstp
      go_wp2
      go_quiet (fail)
      go_wp2
      go_quiet (fail)
      go_wp2
      go_roundw
      case rel =>
        refine ⟨i + 1, by omega, ?_, ?_, ?_⟩
        · rw [HNX.out, HDD.out]
        · have e : ((fr + (i + 1) : Nat) : Int) = (q : Int) + 1 := by have := HQ.out; omega
          rw [e]
          exact (hst.out.1.drewN _).set_ 1 _
        · exact grownJ_trans (grownJ_drewN hst.out.2 _) (grownJ_set _ _ _ _)
      case measure =>
        have hqq := HQ.out
        rw [r1, ((hst.out.1.drewN _).set_ 1 _).cell 1]
        simp [intOf]
        omega
    · obtain rfl : i = n := by omega
      have hix := HS.out.index (i := q) (b := c) (by have := HTL.out.1; omega) (by rw [hq]; exact HEND.out)
      have hUu : U = (u : Int) := by rw [hU, HN.out, List.take_length]; exact HDV.out
      have e0 : ((q : Int) == (fr : Int)) = false := by rw [beq_eq_false_iff_ne]; omega
      have e0n : (q == fr) = false := by rw [beq_eq_false_iff_ne]; omega
      have HQ := Lib.hid hq
      have hp2 : Blk wr w.heap.size 28 [.int .i64 0, .int .u64 0, .string ⟨#[]⟩, .int .i64 0, .slice none 0 0] := (HP1.out.grown HG2.out (by intro e; injection e with e; omega)).grown hst.out.2 (by intro e; injection e with e; omega)
      obtain ⟨c0, c1, c2, c3, c4⟩ := blk_cells5 hp2
      have fz : ∀ j, wr.frozen? ⟨w.heap.size, j, none⟩ = false := fun j => hp2.frozen j
      have HP2 := Lib.hid hp2
      have HJ3 := Lib.hid hst.out.1
      have HG3 : Hid (w.grownBy wr (some g)) := grownJ_trans HG1.out (grownJ_trans HG2.out hst.out.2)
      have hep : ((pre.length + i : Nat) : Int) = (q : Int) := by have := HQ.out; have := HPL.out; have := HFR.out; omega
      have HEP := Lib.hid hep
      have hwq : IntKind.i64.wrap ((q : Int) - (fr : Int)) = (q : Int) - (fr : Int) := by rw [IntKind.wrap_i64]; omega
      rcases hc with rfl | rfl
      all_goals
        by_cases hn1 : 1 < i
        · have g1 : decide ((1 : Int) < (q : Int) - (fr : Int)) = true := decide_eq_true (by have := HQ.out; omega)
          obtain ⟨b, hb⟩ : ∃ b, b = ds.getD 0 0 := ⟨_, rfl⟩
          have hixf := HS.out.index (i := fr) (b := b) (by have := HTL.out.1; omega) (by have := HMID.out 0 (by omega); rw [Nat.add_zero] at this; rw [hb]; exact this)
          have g2 : (b == 48) = false := by rw [beq_eq_false_iff_ne, hb]; exact HHD.out hn1
          clear hb hq hU hstp hst hep hp2
          go_wp2
          go_quiet (fail)
          go_wp2
          (try simp only [Exit.inBlock, Exit.then])
          refine bodyPost_ret (results_cell0 rfl _ rfl (blk_set5 (HP2.out.drewN _) _ _ _ _ _) Tryd.underlying28 rfl (by kernel_rfl)) rfl ?_
          refine ⟨by first | rfl | (rw [← hUu]; rfl) | simp [hUu], ?_, grownJ_far5 (grownJ_drewN HG3.out _) (Nat.le_refl _) _ _ _ _ _⟩
          rw [HEP.out]
          exact far_set5J (HJ3.out.drewN _) (Nat.ne_of_lt hgw) _ _ _ _ _
        · have g1 : decide ((1 : Int) < (q : Int) - (fr : Int)) = false := decide_eq_false (by have := HQ.out; omega)
          clear hq hU hstp hst hep hp2
          go_wp2
          go_quiet (fail)
          go_wp2
          (try simp only [Exit.inBlock, Exit.then])
          refine bodyPost_ret (results_cell0 rfl _ rfl (blk_set5 (HP2.out.drewN _) _ _ _ _ _) Tryd.underlying28 rfl (by kernel_rfl)) rfl ?_
          refine ⟨by first | rfl | (rw [← hUu]; rfl) | simp [hUu], ?_, grownJ_far5 (grownJ_drewN HG3.out _) (Nat.le_refl _) _ _ _ _ _⟩
          rw [HEP.out]
          exact far_set5J (HJ3.out.drewN _) (Nat.ne_of_lt hgw) _ _ _ _ _

set_option maxHeartbeats 4000000 in
set_option maxRecDepth 100000 in
theorem number_neg (w : World) (g : Nat) (s : ByteArray) (T : List Int) (hs : StrJ s T) (u : Nat) (hu : u ≤ 4294967296) (pre post : List Int) (c : Int) (hT : T = pre ++ (45 :: digs u ++ c :: post)) (h : JB w g s (pre.length : Int)) (hc : c = 44 ∨ c = 93) :
    Calls Tryd.prog 33 #[.pointer (some ⟨g, 0, none⟩)] w fun e w' => e = .returned (.agg #[.int .i64 2, .int .u64 (IntKind.u64.wrap (-(u : Int))), .string ⟨#[]⟩, .int .i64 0, .slice none 0 0]) ∧ JB w' g s ((pre.length + (digs u).length + 1 : Nat) : Int) ∧ w.grownBy w' (some g) := by
  obtain ⟨w1, hw1e⟩ : ∃ w1, w1 = w.alloc (.cells #[.int .i64 0, .int .u64 0, .string ⟨#[]⟩, .int .i64 0, .slice none 0 0] 28) := ⟨_, rfl⟩
  have hgw := h.lt
  have HJ1 : Hid (JB w1 g s (pre.length : Int)) := by rw [hw1e]; exact h.alloc _
  have HP1 : Hid (Blk w1 w.heap.size 28 [.int .i64 0, .int .u64 0, .string ⟨#[]⟩, .int .i64 0, .slice none 0 0]) := by rw [hw1e]; exact Blk.new w _ [_, _, _, _, _]
  have HG1 : Hid (w.grownBy w1 (some g)) := by rw [hw1e]; exact World.grownBy_alloc _ _ _
  have hT2 : T = (pre ++ [45]) ++ (digs u ++ c :: post) := by rw [hT]; simp
  obtain ⟨P, hP⟩ : ∃ P, P = pre ++ [45] := ⟨_, rfl⟩
  rw [← hP] at hT2
  have hPl : P.length = pre.length + 1 := by rw [hP]; simp
  have hmin : T.getD pre.length 0 = 45 := by
    rw [hT]; have := getD_mid pre [45] (digs u ++ c :: post) 0 (by simp); rw [Nat.add_zero] at this; rw [List.cons_append]; exact this
  have hwd := word_minus w1 g pre.length s T hs (by rw [hw1e]; exact (h.alloc _)) (by rw [hT]; simp) hmin
  have hs1 := hs.1
  have hs2 := hs.2.1
  have hn0 := digs_pos u
  have hds := digs_all u
  have hhd := digs_head u
  have hdv := dv_digs u
  have hTl : P.length + (digs u).length < T.length := by rw [hT2]; simp
  have hmid := fun i (hi : i < (digs u).length) => (congrArg (fun t => t.getD (P.length + i) 0) hT2).trans (getD_mid P (digs u) (c :: post) i hi)
  have hend := (congrArg (fun t => t.getD (P.length + (digs u).length) 0) hT2).trans (getD_end P (digs u) post c)
  have hTls : P.length + (digs u).length < s.size := by omega
  have HS := Lib.hid hs
  have HWD := Lib.hid hwd
  have HW1 := Lib.hid hw1e
  have hstep := dv_le (digs u) hds
  obtain ⟨ds, hdse⟩ : ∃ ds, ds = digs u := ⟨_, rfl⟩
  rw [← hdse] at hn0 hds hhd hdv hTl hmid hend hTls hstep ⊢
  obtain ⟨n, hne⟩ : ∃ n, n = ds.length := ⟨_, rfl⟩
  obtain ⟨fr, hfr⟩ : ∃ fr, fr = P.length := ⟨_, rfl⟩
  rw [← hne] at hn0 hhd hTl hmid hend hTls ⊢
  rw [← hfr] at hTl hmid hend hTls hPl
  have hfrb : fr + n ≤ 100000 := by omega
  have HDS := Lib.hid hds
  have HHD := Lib.hid hhd
  have HDV := Lib.hid hdv
  have HMID := Lib.hid hmid
  have HEND := Lib.hid hend
  have HTL := Lib.hid (And.intro hTl hTls)
  have HSTEP := Lib.hid hstep
  have HN := Lib.hid hne
  have HFR := Lib.hid hfr
  have HPL := Lib.hid hPl
  clear hs h hwd hw1e hT hT2 hs1 hs2 hds hhd hdv hmid hend hTl hTls hstep hne hfr hPl hP hdse hmin
  go_enter Tryd.func33, Tryd.ntmps33
  go_wp2_with (
    (go_at_call 30)
    go_must (
      rw [← HW1.out]
      (refine HWD.out.mono ?_)
      rintro e w2 ⟨rfl, hj2, hg2⟩
      have HJ2 : Hid (JB w2 g s (P.length : Int)) := by rw [← HFR.out, HPL.out]; exact hj2
      have HG2 : Hid (w1.grownBy w2 (some g)) := hg2
      clear hj2 hg2
      rw [← HFR.out] at HJ2
      have r0 := HJ2.out.cell 0
      have r1 := HJ2.out.cell 1
      simp only [List.getElem?_cons_zero, List.getElem?_cons_succ] at r0 r1))
  clear r0 r1
  go_loopw [5] (fun v wr => ∃ i : Nat, i ≤ n ∧ v = .int .u64 (dv (ds.take i)) ∧ Hid (JB wr g s ((fr + i : Nat) : Int) ∧ w2.grownBy wr (some g))) (fun _ wr => fr + n - (intOf ((wr.cell? ⟨g, 1, none⟩).getD undef)).toNat)
  case atStart => exact ⟨0, Nat.zero_le _, by simp [dv], HJ2.out, grownJ_refl _ _⟩
  case round =>
    obtain ⟨i, hi, rfl, hst⟩ := hrel
    have hstp := HSTEP.out i
    obtain ⟨q, hq⟩ : ∃ q, q = fr + i := ⟨_, rfl⟩
    rw [← hq] at hst
    have hqb : q ≤ 100000 := by omega
    have r0 := hst.out.1.cell 0
    have r1 := hst.out.1.cell 1
    have f1 := hst.out.1.frozen 1
    simp only [List.getElem?_cons_zero, List.getElem?_cons_succ] at r0 r1
    obtain ⟨U, hU⟩ : ∃ U, U = dv (ds.take i) := ⟨_, rfl⟩
    rw [← hU] at hstp ⊢
    have hU0 := hstp.1
    have hU1 : U ≤ 4294967296 := by have := hstp.2.2; have := HDV.out; omega
    have d0 : decide ((q : Int) < (s.size : Int)) = true := decide_eq_true (by have := HTL.out.2; omega)
    have dn0 : decide (q < s.size) = true := decide_eq_true (by have := HTL.out.2; omega)
    by_cases hlt : i < n
    · obtain ⟨b, hb⟩ : ∃ b, b = ds.getD i 0 := ⟨_, rfl⟩
      have hix := HS.out.index (i := q) (b := b) (by have := HTL.out.1; omega) (by rw [hq, hb]; exact HMID.out i hlt)
      have hbd := HDS.out b (by rw [hb]; have : i < ds.length := by rw [← HN.out]; exact hlt
                                simp [List.getD, this])
      have hnx := hstp.2.1 (by rw [← HN.out]; exact hlt)
      rw [← hb] at hnx
      obtain ⟨hb0, hb1⟩ := hbd
      have d1 : decide ((48 : Int) ≤ b) = true := decide_eq_true hb0
      have d2 : decide (b ≤ (57 : Int)) = true := decide_eq_true hb1
      obtain ⟨dd, hdd⟩ : ∃ dd, dd = b - 48 := ⟨_, rfl⟩
      have w0 : IntKind.u8.wrap (b - 48) = dd := by rw [IntKind.wrap_u8, hdd]; omega
      have w1' : IntKind.u64.wrap dd = dd := by rw [IntKind.wrap_u64]; omega
      have HNX := Lib.hid hnx
      have HDD := Lib.hid hdd
      have HU := Lib.hid hU
      have HQ := Lib.hid hq
      have hdr : 0 ≤ dd ∧ dd ≤ 9 := by omega
      obtain ⟨hd0, hd9⟩ := hdr
      clear hnx hdd hU hq hb hstp
      go_wp2
      go_quiet (fail)
      go_wp2
      go_quiet (fail)
      go_wp2
      go_roundw
      case rel =>
        refine ⟨i + 1, by omega, ?_, ?_, ?_⟩
        · rw [HNX.out, HDD.out]
        · have e : ((fr + (i + 1) : Nat) : Int) = (q : Int) + 1 := by have := HQ.out; omega
          rw [e]
          exact (hst.out.1.drewN _).set_ 1 _
        · exact grownJ_trans (grownJ_drewN hst.out.2 _) (grownJ_set _ _ _ _)
      case measure =>
        have hqq := HQ.out
        rw [r1, ((hst.out.1.drewN _).set_ 1 _).cell 1]
        simp [intOf]
        omega
    · obtain rfl : i = n := by omega
      have hix := HS.out.index (i := q) (b := c) (by have := HTL.out.1; omega) (by rw [hq]; exact HEND.out)
      have hUu : U = (u : Int) := by rw [hU, HN.out, List.take_length]; exact HDV.out
      have e0 : ((q : Int) == (fr : Int)) = false := by rw [beq_eq_false_iff_ne]; omega
      have e0n : (q == fr) = false := by rw [beq_eq_false_iff_ne]; omega
      have HQ := Lib.hid hq
      have hp2 : Blk wr w.heap.size 28 [.int .i64 0, .int .u64 0, .string ⟨#[]⟩, .int .i64 0, .slice none 0 0] := (HP1.out.grown HG2.out (by intro e; injection e with e; omega)).grown hst.out.2 (by intro e; injection e with e; omega)
      obtain ⟨c0, c1, c2, c3, c4⟩ := blk_cells5 hp2
      have fz : ∀ j, wr.frozen? ⟨w.heap.size, j, none⟩ = false := fun j => hp2.frozen j
      have HP2 := Lib.hid hp2
      have HJ3 := Lib.hid hst.out.1
      have HG3 : Hid (w.grownBy wr (some g)) := grownJ_trans HG1.out (grownJ_trans HG2.out hst.out.2)
      have hep : ((pre.length + i + 1 : Nat) : Int) = (q : Int) := by have := HQ.out; have := HPL.out; have := HFR.out; omega
      have HEP := Lib.hid hep
      have hwq : IntKind.i64.wrap ((q : Int) - (fr : Int)) = (q : Int) - (fr : Int) := by rw [IntKind.wrap_i64]; omega
      rcases hc with rfl | rfl
      all_goals
        by_cases hn1 : 1 < i
        · have g1 : decide ((1 : Int) < (q : Int) - (fr : Int)) = true := decide_eq_true (by have := HQ.out; omega)
          obtain ⟨b, hb⟩ : ∃ b, b = ds.getD 0 0 := ⟨_, rfl⟩
          have hixf := HS.out.index (i := fr) (b := b) (by have := HTL.out.1; omega) (by have := HMID.out 0 (by omega); rw [Nat.add_zero] at this; rw [hb]; exact this)
          have g2 : (b == 48) = false := by rw [beq_eq_false_iff_ne, hb]; exact HHD.out hn1
          clear hb hq hU hstp hst hep hp2
          go_wp2
          go_quiet (fail)
          go_wp2
          (try simp only [Exit.inBlock, Exit.then])
          refine bodyPost_ret (results_cell0 rfl _ rfl (blk_set5 (HP2.out.drewN _) _ _ _ _ _) Tryd.underlying28 rfl (by kernel_rfl)) rfl ?_
          refine ⟨by first | rfl | (rw [← hUu]; rfl) | simp [hUu], ?_, grownJ_far5 (grownJ_drewN HG3.out _) (Nat.le_refl _) _ _ _ _ _⟩
          rw [HEP.out]
          exact far_set5J (HJ3.out.drewN _) (Nat.ne_of_lt hgw) _ _ _ _ _
        · have g1 : decide ((1 : Int) < (q : Int) - (fr : Int)) = false := decide_eq_false (by have := HQ.out; omega)
          clear hq hU hstp hst hep hp2
          go_wp2
          go_quiet (fail)
          go_wp2
          (try simp only [Exit.inBlock, Exit.then])
          refine bodyPost_ret (results_cell0 rfl _ rfl (blk_set5 (HP2.out.drewN _) _ _ _ _ _) Tryd.underlying28 rfl (by kernel_rfl)) rfl ?_
          refine ⟨by first | rfl | (rw [← hUu]; rfl) | simp [hUu], ?_, grownJ_far5 (grownJ_drewN HG3.out _) (Nat.le_refl _) _ _ _ _ _⟩
          rw [HEP.out]
          exact far_set5J (HJ3.out.drewN _) (Nat.ne_of_lt hgw) _ _ _ _ _
end Go.Proofs.YtikpmeedjdddoaaDoor
