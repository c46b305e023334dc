/- laws.FnReadUnsigned. PRINTED by wip/geniu.py. -/
import Derived.Test.YtjjhckbidcdkcaaDoorIt
import Derived.Test.YtjjhckbidcdkcaaDoorIp
import Derived.Laws.BytesArg
namespace Go.Proofs.YtjjhckbidcdkcaaDoor
open Go.RowKit
set_option linter.unusedVariables false

theorem conv_reads {P : Program} {w : World} {B n c : Nat} {A : Option Addr} {l : List Int} (h : Reads w B 1 A n (bs l)) (src e dst : TypeId) (hs : P.underlying src = some (.slice e)) (he : P.underlying e = some (.int .u8)) (hd : P.underlying dst = some .string) :
    (convert src dst (.slice A n c)).run P w = .ok (.string (strOfNums l)) w := by
  have hn := h.bytes
  rcases A with _ | ad
  · have h0 : n = 0 := by
      rcases Nat.eq_zero_or_pos n with h0 | h0
      · exact h0
      · obtain ⟨_, h1, _⟩ := h.2 h0
        cases h1
    have : l = [] := List.eq_nil_of_length_eq_zero (by omega)
    subst this
    exact run_convert_bytes_nil w src e hs he n c dst hd
  · have hl : (loadCells ad n).run P w = .ok (l.map (Value.int .u8)).toArray w := by
      have := run_loadCells_list (P := P) w ad (l.map (Value.int .u8)) (fun j v hj => by
        have hj0 : 0 < n := by
          rcases Nat.eq_zero_or_pos n with h0 | h0
          · have : l = [] := List.eq_nil_of_length_eq_zero (by omega)
            subst this
            simp at hj
          · exact h0
        obtain ⟨ad', h1, _, h2⟩ := h.2 hj0
        injection h1 with h1
        subst h1
        exact h2 j v hj)
      simpa [hn] using this
    rw [run_convert_bytes_string w src dst e _ n c hs he hd, run_bytesToString w ad n c l hl, foldl_push_bytes]
    simp [strOfNums, ByteArray.empty, ByteArray.emptyWithCapacity]
    rfl
set_option maxHeartbeats 2000000 in
set_option maxRecDepth 100000 in
theorem left_calls (W : World) (A A2 : Option Addr) (c c2 : Nat) (l : List Int) (h : Reads W W.heap.size 1 A l.length (bs l)) (h2 : Reads W W.heap.size 1 A2 l.length (bs l)) : Calls Tryd.prog 12 #[.slice A l.length c, .slice A2 l.length c2] W fun e W' => e = .returned (.bool true) ∧ Below W.heap.size W W' := by
  have hcv : ∀ w c, w.heap = W.heap → (convert 26 9 (.slice A l.length c)).run Tryd.prog w = .ok (.string (strOfNums l)) w := fun w c hw => conv_reads (h.keep fun p _ => by simp [World.cell?, hw]) _ _ _ Tryd.underlying26 Tryd.underlying5 Tryd.underlying9
  have hc1 := hcv W c rfl
  have hc2 := fun n => hcv (W.drewN n) c rfl
  have hk : (convert 26 9 (.slice A2 l.length c2)).run Tryd.prog W = .ok (.string (strOfNums l)) W := conv_reads h2 _ _ _ Tryd.underlying26 Tryd.underlying5 Tryd.underlying9
  clear hcv
  go_enter Tryd.func12, Tryd.ntmps12
  go_wp2
  go_ret
  exact ⟨by simp, Below.refl _ _⟩
theorem DatV.cut {T : VT} {bl : List Int} {cut : Int} {Ab : Option Addr} {cb : Nat} {w w' : World} {e : Ending} (h : DatV T bl cut Ab cb w e w') (hc : 0 < cut) :
    ∃ A m c b, e = .returned (.tuple #[.slice A m c, .slice none 0 0, .bool b, .bool b]) ∧ Below w.heap.size w w' ∧ (b = true → (FitsV T ∧ T.cnt ≤ 500 ∧ T.n true = 0 ∧ ETf T) ∧ ∃ enc, FPV T enc ∧ m < enc.length ∧ m ≤ c ∧ c ≤ maxLen ∧ Reads w' w'.heap.size 1 A m (bs (enc.take m))) := by
  obtain ⟨hb, h⟩ := h
  rcases h with rfl | ⟨hfx, _, enc, hf, h⟩
  · exact ⟨none, 0, 0, false, rfl, hb, fun h => (by cases h)⟩
  · rcases h with ⟨_, A, c, m, hm, rfl, hmc, hcm, hr⟩ | ⟨hcc, _⟩
    · exact ⟨A, m, c, true, rfl, hb, fun _ => ⟨hfx, enc, hf, hm, hmc, hcm, hr⟩⟩
    · omega
theorem DatV.whole {T : VT} {bl : List Int} {cut : Int} {Ab : Option Addr} {cb : Nat} {w w' : World} {e : Ending} (h : DatV T bl cut Ab cb w e w') (hc : ¬ 0 < cut) :
    ∃ A m c A2 m2 c2 b, e = .returned (.tuple #[.slice A m c, .slice A2 m2 c2, .bool false, .bool b]) ∧ Below w.heap.size w w' ∧ (b = true → (FitsV T ∧ T.cnt ≤ 500 ∧ T.n true = 0 ∧ ETf T) ∧ bl.length ≤ 100 ∧ A2 = Ab ∧ m2 = bl.length ∧ ∃ enc, FPV T enc ∧ m = (enc ++ bl).length ∧ m ≤ c ∧ c ≤ maxLen ∧ Reads w' w'.heap.size 1 A m (bs (enc ++ bl))) := by
  obtain ⟨hb, h⟩ := h
  rcases h with rfl | ⟨hfx, h100, enc, hf, h⟩
  · exact ⟨none, 0, 0, none, 0, 0, false, rfl, hb, fun h => (by cases h)⟩
  · rcases h with ⟨hcc, _⟩ | ⟨_, A, c, rfl, hmc, hcm, hr⟩
    · omega
    · exact ⟨A, _, c, Ab, _, cb, true, rfl, hb, fun _ => ⟨hfx, h100, rfl, rfl, enc, hf, rfl, hmc, hcm, hr⟩⟩
theorem tv_u {W : World} {B : Nat} {T : VT} {A : Bool → Option Addr} {c : Bool → Nat} (h : TV W B T A c) : 0 ≤ T.u ∧ T.u ≤ 18446744073709551615 := by
  cases T with
  | nil => exact h.elim
  | mk k u s o n f =>
    obtain ⟨hwf, -⟩ := h.open_
    exact ⟨hwf.2.2.1, hwf.2.2.2.1⟩
theorem fpv_len {T : VT} {enc : List Int} (h : FPV T enc) (hc : T.cnt ≤ 500) : enc.length ≤ 70000000 := len70 h.2.2.1 hc
theorem EofS.more {w w' : World} {B : Nat} (h : EofS w B) (hb : Below B w w') (hz : B ≤ w'.heap.size) : EofS w' w'.heap.size := by
  obtain ⟨h1, te, ve, h2⟩ := h
  exact ⟨Nat.lt_of_lt_of_le h1 hz, te, ve, (hb.cell h1).trans h2⟩
theorem reads_new (w : World) (t : TypeId) (l : List Int) : Reads (w.alloc (.cells (bs l).toArray t)) (w.alloc (.cells (bs l).toArray t)).heap.size 1 (some ⟨w.heap.size, 0, none⟩) l.length (bs l) := by
  have hl : l.length ≤ (bs l).length := by simp [bs]
  have h := ((Blk.new w t (bs l)).reads 0 l.length (by omega)).more (show w.heap.size + 1 ≤ (w.alloc (.cells (bs l).toArray t)).heap.size by simp)
  rwa [List.drop_zero, List.take_of_length_le (by simp [bs])] at h
set_option maxHeartbeats 4000000 in
set_option maxRecDepth 100000 in
theorem lawU_lo_cut (T : VT) (W : World) (fo cut : Int) (A : Bool → Option Addr) (Ab : Option Addr) (c : Bool → Nat) (cb : Nat) (bl : List Int) (h : TV W W.heap.size T A c) (hU : UT W.heap.size W) (hE : EofS W W.heap.size) (hbl : Reads W W.heap.size 1 Ab bl.length (bs bl)) (hbc : bl.length ≤ cb) (hbm : cb ≤ maxLen) (hbb : ∀ x ∈ bl, 0 ≤ x ∧ x ≤ 255) (hk : T.k < 2) (hc : 0 < cut) :
    Calls Tryd.prog 3 #[.agg #[.int .i64 T.k, .int .u64 T.u, .string T.s, .slice (A false) (T.n false) (c false), .int .i64 T.o, .slice (A true) (T.n true) (c true), .int .u64 fo, .slice Ab bl.length cb, .int .i64 cut]] W fun e w' => e = .returned (.bool true) ∧ Below W.heap.size W w' := by
  have k2 : decide ((2 : Int) ≤ T.k) = false := decide_eq_false (by omega)
  have k5 : decide (T.k ≤ (5 : Int)) = true := decide_eq_true (by omega)
  have k6 : decide ((6 : Int) ≤ T.k) = false := decide_eq_false (by omega)
  have k9 : decide (T.k ≤ (9 : Int)) = true := decide_eq_true (by omega)
  have HK := Lib.hid hk
  have hp1 : Blk (W.alloc (.cells #[.int .i64 T.k, .int .u64 T.u, .string T.s, .slice (A false) (T.n false) (c false), .int .i64 T.o, .slice (A true) (T.n true) (c true), .int .u64 fo, .slice Ab bl.length cb, .int .i64 cut] 28)) W.heap.size 28 [.int .i64 T.k, .int .u64 T.u, .string T.s, .slice (A false) (T.n false) (c false), .int .i64 T.o, .slice (A true) (T.n true) (c true), .int .u64 fo, .slice Ab bl.length cb, .int .i64 cut] := Blk.new W _ [_, _, _, _, _, _, _, _, _]
  have hbel : Below W.heap.size W (W.alloc (.cells #[.int .i64 T.k, .int .u64 T.u, .string T.s, .slice (A false) (T.n false) (c false), .int .i64 T.o, .slice (A true) (T.n true) (c true), .int .u64 fo, .slice Ab bl.length cb, .int .i64 cut] 28)) := (Below.refl _ W).alloc (Nat.le_refl _) _
  obtain ⟨hu0, hu1⟩ := tv_u h
  have HP1 := Lib.hid hp1
  have HBEL := Lib.hid hbel
  have HT := Lib.hid h
  have HU := Lib.hid hU
  have HEO := Lib.hid hE
  have HBL := Lib.hid hbl
  have HBB := Lib.hid hbb
  have hbm2 : bl.length ≤ 9223372036854775807 := by simp only [maxLen] at hbm; omega
  have HUU := Lib.hid (And.intro hu0 hu1)
  clear hp1 hbel h hU hE hbl hbb hu0 hu1
  go_enter Tryd.func3, Tryd.ntmps3
  go_wp2_with (first
    | (go_at_call 9
       go_must (
         (refine (zzFits1_calls _ T fo cut A c Ab cb bl).mono ?_)
         rintro e w2 ⟨rfl, hb2⟩
         have hp2 := HP1.out.below hb2 HP1.out.lt
         have m0 := hp2.cell 0
         have m1 := hp2.cell 1
         have m2 := hp2.cell 2
         have m3 := hp2.cell 3
         have m4 := hp2.cell 4
         have m5 := hp2.cell 5
         have m6 := hp2.cell 6
         have m7 := hp2.cell 7
         have m8 := hp2.cell 8
         simp only [List.getElem?_cons_zero, List.getElem?_cons_succ] at m0 m1 m2 m3 m4 m5 m6 m7 m8
         have HP2 := Lib.hid hp2
         have HB2 : Hid (Below W.heap.size W w2) := HBEL.out.trans (hb2.mono HBEL.out.size)
         clear hp2 hb2))
    | (go_at_call 10
       first
       | (have HDD := HD.out
          clear HDD
          go_must (
         (have hbt : b = true := by first | assumption | (have hx : (!b) = false := (by assumption); simpa using hx) | (have hx : b = true ∧ _ := (by assumption); exact hx.1))
         obtain ⟨hfx, enc, hfp, hm, hmc, hcm, hr⟩ := HD.out hbt
         obtain ⟨hF, hcnt, hds, het⟩ := hfx
         have hen := fpv_len hfp hcnt
         obtain ⟨d, hdd⟩ : ∃ d, d = enc.take m1 := ⟨_, rfl⟩
         have hdl : d.length = m1 := by rw [hdd, List.length_take]; omega
         have hdB : IsByt d := fun x hx => hfp.1 x (List.mem_of_mem_take (by rw [hdd] at hx; exact hx))
         rw [← hdd, ← hdl] at hr
         have hcl := implReadUnsigned_calls (w4.alloc (.cells #[.int .i64 T.k, .int .u64 T.u, .string T.s, .slice (A false) (T.n false) (c false), .int .i64 T.o, .slice (A true) (T.n true) (c true)] 25)) A1 c1 d ((hr.alloc (Nat.le_refl _) _).more (by simp)) (by omega) hdB (HEO.out.more (HB4.out.alloc HB4.out.size _) (HB4.out.alloc HB4.out.size _).size) (none) (by rw [hdd]; exact pU_cut m1 hF hds hfp HUU.out.1 HUU.out.2 (fun h => by have := HK.out; omega) hm)
         rw [hdl] at hcl
         refine hcl.mono ?_
         rintro e w5 ⟨hb5, rfl⟩
         have hba4 : Below W.heap.size W (w4.alloc (.cells #[.int .i64 T.k, .int .u64 T.u, .string T.s, .slice (A false) (T.n false) (c false), .int .i64 T.o, .slice (A true) (T.n true) (c true)] 25)) := HB4.out.alloc HB4.out.size _
         have HB5 : Hid (Below W.heap.size W w5) := hba4.trans (hb5.mono hba4.size)
         have hpv := (Blk.new w4 25 [.int .i64 T.k, .int .u64 T.u, .string T.s, .slice (A false) (T.n false) (c false), .int .i64 T.o, .slice (A true) (T.n true) (c true)]).below hb5 (by simp)
         have l0 := hpv.cell 0
         have l1 := hpv.cell 1
         have l2 := hpv.cell 2
         have l3 := hpv.cell 3
         have l4 := hpv.cell 4
         have l5 := hpv.cell 5
         simp only [List.getElem?_cons_zero, List.getElem?_cons_succ] at l0 l1 l2 l3 l4 l5
         clear hb5 hpv hba4 hcl hr k0 k1 k2 k3 k4 k5 k6 k7 k8))
       | go_must (
         (refine (implReadUnsigned_calls (w2.alloc (.cells #[.int .u8 82, .int .u8 5] 5)) (some ⟨w2.heap.size, 0, none⟩) 2 [82, 5] (reads_new w2 _ [82, 5]) (by decide) (by unfold IsByt; decide) (HEO.out.more (HB2.out.alloc HB2.out.size _) (HB2.out.alloc HB2.out.size _).size) _ rfl).mono ?_)
         rintro e w3 ⟨hb3, A0, c0, rfl, hr3⟩
         have hba : Below W.heap.size W (w2.alloc (.cells #[.int .u8 82, .int .u8 5] 5)) := HB2.out.alloc HB2.out.size _
         have HB3 : Hid (Below W.heap.size W w3) := hba.trans (hb3.mono hba.size)
         have hp3 := (HP2.out.alloc (.cells #[.int .u8 82, .int .u8 5] 5)).below hb3 (HP2.out.alloc (.cells #[.int .u8 82, .int .u8 5] 5)).lt
         have j0 := hp3.cell 0
         have j1 := hp3.cell 1
         have j2 := hp3.cell 2
         have j3 := hp3.cell 3
         have j4 := hp3.cell 4
         have j5 := hp3.cell 5
         have j6 := hp3.cell 6
         have j7 := hp3.cell 7
         have j8 := hp3.cell 8
         simp only [List.getElem?_cons_zero, List.getElem?_cons_succ] at j0 j1 j2 j3 j4 j5 j6 j7 j8
         have HP3 := Lib.hid hp3
         clear hp3 hb3 hba hr3 m0 m1 m2 m3 m4 m5 m6 m7 m8))
    | (go_at_call 11
       go_must (
         (refine (data_calls W.heap.size T _ fo cut A Ab c cb bl (TV.below HB3.out _ _ _ HT.out) HB3.out.size (HU.out.below HB3.out) ((HBL.out.below HB3.out).more HB3.out.size) hbc hbm).mono ?_)
         rintro e w4 hdat
         obtain ⟨A1, m1, c1, b, rfl, hb4, hd⟩ := hdat.cut hc
         have HB4 : Hid (Below W.heap.size W w4) := HB3.out.trans (hb4.mono HB3.out.size)
         have hp4 := HP3.out.below hb4 HP3.out.lt
         have k0 := hp4.cell 0
         have k1 := hp4.cell 1
         have k2 := hp4.cell 2
         have k3 := hp4.cell 3
         have k4 := hp4.cell 4
         have k5 := hp4.cell 5
         have k6 := hp4.cell 6
         have k7 := hp4.cell 7
         have k8 := hp4.cell 8
         simp only [List.getElem?_cons_zero, List.getElem?_cons_succ] at k0 k1 k2 k3 k4 k5 k6 k7 k8
         have HD := Lib.hid hd
         have HP4 := Lib.hid hp4
         clear hdat hd hb4 hp4 j0 j1 j2 j3 j4 j5 j6 j7 j8)))
  all_goals (
    (try simp only [Exit.inBlock, Exit.then])
    go_ret
    first
      | exact ⟨rfl, HB9.out⟩
      | exact ⟨rfl, HB5.out⟩
      | exact ⟨rfl, HB4.out.alloc HB4.out.size _⟩
      | exact ⟨rfl, HB4.out⟩
      | exact ⟨rfl, HB2.out⟩)
set_option maxHeartbeats 4000000 in
set_option maxRecDepth 100000 in
theorem lawU_lo_whole (T : VT) (W : World) (fo cut : Int) (A : Bool → Option Addr) (Ab : Option Addr) (c : Bool → Nat) (cb : Nat) (bl : List Int) (h : TV W W.heap.size T A c) (hU : UT W.heap.size W) (hE : EofS W W.heap.size) (hbl : Reads W W.heap.size 1 Ab bl.length (bs bl)) (hbc : bl.length ≤ cb) (hbm : cb ≤ maxLen) (hbb : ∀ x ∈ bl, 0 ≤ x ∧ x ≤ 255) (hk : T.k < 2) (hc : ¬ 0 < cut) :
    Calls Tryd.prog 3 #[.agg #[.int .i64 T.k, .int .u64 T.u, .string T.s, .slice (A false) (T.n false) (c false), .int .i64 T.o, .slice (A true) (T.n true) (c true), .int .u64 fo, .slice Ab bl.length cb, .int .i64 cut]] W fun e w' => e = .returned (.bool true) ∧ Below W.heap.size W w' := by
  have k2 : decide ((2 : Int) ≤ T.k) = false := decide_eq_false (by omega)
  have k5 : decide (T.k ≤ (5 : Int)) = true := decide_eq_true (by omega)
  have k6 : decide ((6 : Int) ≤ T.k) = false := decide_eq_false (by omega)
  have k9 : decide (T.k ≤ (9 : Int)) = true := decide_eq_true (by omega)
  have HK := Lib.hid hk
  have hp1 : Blk (W.alloc (.cells #[.int .i64 T.k, .int .u64 T.u, .string T.s, .slice (A false) (T.n false) (c false), .int .i64 T.o, .slice (A true) (T.n true) (c true), .int .u64 fo, .slice Ab bl.length cb, .int .i64 cut] 28)) W.heap.size 28 [.int .i64 T.k, .int .u64 T.u, .string T.s, .slice (A false) (T.n false) (c false), .int .i64 T.o, .slice (A true) (T.n true) (c true), .int .u64 fo, .slice Ab bl.length cb, .int .i64 cut] := Blk.new W _ [_, _, _, _, _, _, _, _, _]
  have hbel : Below W.heap.size W (W.alloc (.cells #[.int .i64 T.k, .int .u64 T.u, .string T.s, .slice (A false) (T.n false) (c false), .int .i64 T.o, .slice (A true) (T.n true) (c true), .int .u64 fo, .slice Ab bl.length cb, .int .i64 cut] 28)) := (Below.refl _ W).alloc (Nat.le_refl _) _
  obtain ⟨hu0, hu1⟩ := tv_u h
  have HP1 := Lib.hid hp1
  have HBEL := Lib.hid hbel
  have HT := Lib.hid h
  have HU := Lib.hid hU
  have HEO := Lib.hid hE
  have HBL := Lib.hid hbl
  have HBB := Lib.hid hbb
  have hbm2 : bl.length ≤ 9223372036854775807 := by simp only [maxLen] at hbm; omega
  have HUU := Lib.hid (And.intro hu0 hu1)
  clear hp1 hbel h hU hE hbl hbb hu0 hu1
  go_enter Tryd.func3, Tryd.ntmps3
  go_wp2_with (first
    | (go_at_call 9
       go_must (
         (refine (zzFits1_calls _ T fo cut A c Ab cb bl).mono ?_)
         rintro e w2 ⟨rfl, hb2⟩
         have hp2 := HP1.out.below hb2 HP1.out.lt
         have m0 := hp2.cell 0
         have m1 := hp2.cell 1
         have m2 := hp2.cell 2
         have m3 := hp2.cell 3
         have m4 := hp2.cell 4
         have m5 := hp2.cell 5
         have m6 := hp2.cell 6
         have m7 := hp2.cell 7
         have m8 := hp2.cell 8
         simp only [List.getElem?_cons_zero, List.getElem?_cons_succ] at m0 m1 m2 m3 m4 m5 m6 m7 m8
         have HP2 := Lib.hid hp2
         have HB2 : Hid (Below W.heap.size W w2) := HBEL.out.trans (hb2.mono HBEL.out.size)
         clear hp2 hb2))
    | (go_at_call 10
       first
       | (have HDD := HD.out
          clear HDD
          go_must (
         (have hbt : b = true := by first | assumption | (have hx : (!b) = false := (by assumption); simpa using hx) | (have hx : b = true ∧ _ := (by assumption); exact hx.1))
         obtain ⟨hfx, h100, hA2, hm2, enc, hfp, hm, hmc, hcm, hr⟩ := HD.out hbt
         obtain ⟨hF, hcnt, hds, het⟩ := hfx
         have hen := fpv_len hfp hcnt
         obtain ⟨d, hdd⟩ : ∃ d, d = enc ++ bl := ⟨_, rfl⟩
         have hdl : d.length = m1 := by rw [hdd, hm]
         have hdB : IsByt d := fun x hx => by
           rw [hdd] at hx
           exact (List.mem_append.1 hx).elim (hfp.1 x) (HBB.out x)
         have hdn : d.length ≤ 100000000 := by rw [hdd, List.length_append]; omega
         rw [← hdd, ← hdl] at hr
         have hcl := implReadUnsigned_calls (w4.alloc (.cells #[.int .i64 T.k, .int .u64 T.u, .string T.s, .slice (A false) (T.n false) (c false), .int .i64 T.o, .slice (A true) (T.n true) (c true)] 25)) A1 c1 d ((hr.alloc (Nat.le_refl _) _).more (by simp)) hdn hdB (HEO.out.more (HB4.out.alloc HB4.out.size _) (HB4.out.alloc HB4.out.size _).size) (none) (by rw [hdd]; exact pU_other bl hF hds hfp (fun h => by have := HK.out; omega))
         rw [hdl] at hcl
         refine hcl.mono ?_
         rintro e w5 ⟨hb5, rfl⟩
         have hba4 : Below W.heap.size W (w4.alloc (.cells #[.int .i64 T.k, .int .u64 T.u, .string T.s, .slice (A false) (T.n false) (c false), .int .i64 T.o, .slice (A true) (T.n true) (c true)] 25)) := HB4.out.alloc HB4.out.size _
         have HB5 : Hid (Below W.heap.size W w5) := hba4.trans (hb5.mono hba4.size)
         have hpv := (Blk.new w4 25 [.int .i64 T.k, .int .u64 T.u, .string T.s, .slice (A false) (T.n false) (c false), .int .i64 T.o, .slice (A true) (T.n true) (c true)]).below hb5 (by simp)
         have l0 := hpv.cell 0
         have l1 := hpv.cell 1
         have l2 := hpv.cell 2
         have l3 := hpv.cell 3
         have l4 := hpv.cell 4
         have l5 := hpv.cell 5
         simp only [List.getElem?_cons_zero, List.getElem?_cons_succ] at l0 l1 l2 l3 l4 l5
         clear hb5 hpv hba4 hcl hr k0 k1 k2 k3 k4 k5 k6 k7 k8))
       | go_must (
         (refine (implReadUnsigned_calls (w2.alloc (.cells #[.int .u8 82, .int .u8 5] 5)) (some ⟨w2.heap.size, 0, none⟩) 2 [82, 5] (reads_new w2 _ [82, 5]) (by decide) (by unfold IsByt; decide) (HEO.out.more (HB2.out.alloc HB2.out.size _) (HB2.out.alloc HB2.out.size _).size) _ rfl).mono ?_)
         rintro e w3 ⟨hb3, A0, c0, rfl, hr3⟩
         have hba : Below W.heap.size W (w2.alloc (.cells #[.int .u8 82, .int .u8 5] 5)) := HB2.out.alloc HB2.out.size _
         have HB3 : Hid (Below W.heap.size W w3) := hba.trans (hb3.mono hba.size)
         have hp3 := (HP2.out.alloc (.cells #[.int .u8 82, .int .u8 5] 5)).below hb3 (HP2.out.alloc (.cells #[.int .u8 82, .int .u8 5] 5)).lt
         have j0 := hp3.cell 0
         have j1 := hp3.cell 1
         have j2 := hp3.cell 2
         have j3 := hp3.cell 3
         have j4 := hp3.cell 4
         have j5 := hp3.cell 5
         have j6 := hp3.cell 6
         have j7 := hp3.cell 7
         have j8 := hp3.cell 8
         simp only [List.getElem?_cons_zero, List.getElem?_cons_succ] at j0 j1 j2 j3 j4 j5 j6 j7 j8
         have HP3 := Lib.hid hp3
         clear hp3 hb3 hba hr3 m0 m1 m2 m3 m4 m5 m6 m7 m8))
    | (go_at_call 11
       go_must (
         (refine (data_calls W.heap.size T _ fo cut A Ab c cb bl (TV.below HB3.out _ _ _ HT.out) HB3.out.size (HU.out.below HB3.out) ((HBL.out.below HB3.out).more HB3.out.size) hbc hbm).mono ?_)
         rintro e w4 hdat
         obtain ⟨A1, m1, c1, A2, m2, c2, b, rfl, hb4, hd⟩ := hdat.whole (by omega)
         have HB4 : Hid (Below W.heap.size W w4) := HB3.out.trans (hb4.mono HB3.out.size)
         have hp4 := HP3.out.below hb4 HP3.out.lt
         have k0 := hp4.cell 0
         have k1 := hp4.cell 1
         have k2 := hp4.cell 2
         have k3 := hp4.cell 3
         have k4 := hp4.cell 4
         have k5 := hp4.cell 5
         have k6 := hp4.cell 6
         have k7 := hp4.cell 7
         have k8 := hp4.cell 8
         simp only [List.getElem?_cons_zero, List.getElem?_cons_succ] at k0 k1 k2 k3 k4 k5 k6 k7 k8
         have HD := Lib.hid hd
         have HP4 := Lib.hid hp4
         clear hdat hd hb4 hp4 j0 j1 j2 j3 j4 j5 j6 j7 j8)))
  all_goals (
    (try simp only [Exit.inBlock, Exit.then])
    go_ret
    first
      | exact ⟨rfl, HB9.out⟩
      | exact ⟨rfl, HB5.out⟩
      | exact ⟨rfl, HB4.out.alloc HB4.out.size _⟩
      | exact ⟨rfl, HB4.out⟩
      | exact ⟨rfl, HB2.out⟩)
set_option maxHeartbeats 4000000 in
set_option maxRecDepth 100000 in
theorem lawU_un_cut (T : VT) (W : World) (fo cut : Int) (A : Bool → Option Addr) (Ab : Option Addr) (c : Bool → Nat) (cb : Nat) (bl : List Int) (h : TV W W.heap.size T A c) (hU : UT W.heap.size W) (hE : EofS W W.heap.size) (hbl : Reads W W.heap.size 1 Ab bl.length (bs bl)) (hbc : bl.length ≤ cb) (hbm : cb ≤ maxLen) (hbb : ∀ x ∈ bl, 0 ≤ x ∧ x ≤ 255) (hk : 2 ≤ T.k ∧ T.k ≤ 5) (hc : 0 < cut) :
    Calls Tryd.prog 3 #[.agg #[.int .i64 T.k, .int .u64 T.u, .string T.s, .slice (A false) (T.n false) (c false), .int .i64 T.o, .slice (A true) (T.n true) (c true), .int .u64 fo, .slice Ab bl.length cb, .int .i64 cut]] W fun e w' => e = .returned (.bool true) ∧ Below W.heap.size W w' := by
  have k2 : decide ((2 : Int) ≤ T.k) = true := decide_eq_true (by omega)
  have k5 : decide (T.k ≤ (5 : Int)) = true := decide_eq_true (by omega)
  have k6 : decide ((6 : Int) ≤ T.k) = false := decide_eq_false (by omega)
  have k9 : decide (T.k ≤ (9 : Int)) = true := decide_eq_true (by omega)
  have HK := Lib.hid hk
  have hp1 : Blk (W.alloc (.cells #[.int .i64 T.k, .int .u64 T.u, .string T.s, .slice (A false) (T.n false) (c false), .int .i64 T.o, .slice (A true) (T.n true) (c true), .int .u64 fo, .slice Ab bl.length cb, .int .i64 cut] 28)) W.heap.size 28 [.int .i64 T.k, .int .u64 T.u, .string T.s, .slice (A false) (T.n false) (c false), .int .i64 T.o, .slice (A true) (T.n true) (c true), .int .u64 fo, .slice Ab bl.length cb, .int .i64 cut] := Blk.new W _ [_, _, _, _, _, _, _, _, _]
  have hbel : Below W.heap.size W (W.alloc (.cells #[.int .i64 T.k, .int .u64 T.u, .string T.s, .slice (A false) (T.n false) (c false), .int .i64 T.o, .slice (A true) (T.n true) (c true), .int .u64 fo, .slice Ab bl.length cb, .int .i64 cut] 28)) := (Below.refl _ W).alloc (Nat.le_refl _) _
  obtain ⟨hu0, hu1⟩ := tv_u h
  have HP1 := Lib.hid hp1
  have HBEL := Lib.hid hbel
  have HT := Lib.hid h
  have HU := Lib.hid hU
  have HEO := Lib.hid hE
  have HBL := Lib.hid hbl
  have HBB := Lib.hid hbb
  have hbm2 : bl.length ≤ 9223372036854775807 := by simp only [maxLen] at hbm; omega
  have HUU := Lib.hid (And.intro hu0 hu1)
  clear hp1 hbel h hU hE hbl hbb hu0 hu1
  go_enter Tryd.func3, Tryd.ntmps3
  go_wp2_with (first
    | (go_at_call 9
       go_must (
         (refine (zzFits1_calls _ T fo cut A c Ab cb bl).mono ?_)
         rintro e w2 ⟨rfl, hb2⟩
         have hp2 := HP1.out.below hb2 HP1.out.lt
         have m0 := hp2.cell 0
         have m1 := hp2.cell 1
         have m2 := hp2.cell 2
         have m3 := hp2.cell 3
         have m4 := hp2.cell 4
         have m5 := hp2.cell 5
         have m6 := hp2.cell 6
         have m7 := hp2.cell 7
         have m8 := hp2.cell 8
         simp only [List.getElem?_cons_zero, List.getElem?_cons_succ] at m0 m1 m2 m3 m4 m5 m6 m7 m8
         have HP2 := Lib.hid hp2
         have HB2 : Hid (Below W.heap.size W w2) := HBEL.out.trans (hb2.mono HBEL.out.size)
         clear hp2 hb2))
    | (go_at_call 10
       first
       | (have HDD := HD.out
          clear HDD
          go_must (
         (have hbt : b = true := by first | assumption | (have hx : (!b) = false := (by assumption); simpa using hx) | (have hx : b = true ∧ _ := (by assumption); exact hx.1))
         obtain ⟨hfx, enc, hfp, hm, hmc, hcm, hr⟩ := HD.out hbt
         obtain ⟨hF, hcnt, hds, het⟩ := hfx
         have hen := fpv_len hfp hcnt
         obtain ⟨d, hdd⟩ : ∃ d, d = enc.take m1 := ⟨_, rfl⟩
         have hdl : d.length = m1 := by rw [hdd, List.length_take]; omega
         have hdB : IsByt d := fun x hx => hfp.1 x (List.mem_of_mem_take (by rw [hdd] at hx; exact hx))
         rw [← hdd, ← hdl] at hr
         have hcl := implReadUnsigned_calls (w4.alloc (.cells #[.int .i64 T.k, .int .u64 T.u, .string T.s, .slice (A false) (T.n false) (c false), .int .i64 T.o, .slice (A true) (T.n true) (c true)] 25)) A1 c1 d ((hr.alloc (Nat.le_refl _) _).more (by simp)) (by omega) hdB (HEO.out.more (HB4.out.alloc HB4.out.size _) (HB4.out.alloc HB4.out.size _).size) (none) (by rw [hdd]; exact pU_cut m1 hF hds hfp HUU.out.1 HUU.out.2 (fun h => by have := HK.out; omega) hm)
         rw [hdl] at hcl
         refine hcl.mono ?_
         rintro e w5 ⟨hb5, rfl⟩
         have hba4 : Below W.heap.size W (w4.alloc (.cells #[.int .i64 T.k, .int .u64 T.u, .string T.s, .slice (A false) (T.n false) (c false), .int .i64 T.o, .slice (A true) (T.n true) (c true)] 25)) := HB4.out.alloc HB4.out.size _
         have HB5 : Hid (Below W.heap.size W w5) := hba4.trans (hb5.mono hba4.size)
         have hpv := (Blk.new w4 25 [.int .i64 T.k, .int .u64 T.u, .string T.s, .slice (A false) (T.n false) (c false), .int .i64 T.o, .slice (A true) (T.n true) (c true)]).below hb5 (by simp)
         have l0 := hpv.cell 0
         have l1 := hpv.cell 1
         have l2 := hpv.cell 2
         have l3 := hpv.cell 3
         have l4 := hpv.cell 4
         have l5 := hpv.cell 5
         simp only [List.getElem?_cons_zero, List.getElem?_cons_succ] at l0 l1 l2 l3 l4 l5
         clear hb5 hpv hba4 hcl hr k0 k1 k2 k3 k4 k5 k6 k7 k8))
       | go_must (
         (refine (implReadUnsigned_calls (w2.alloc (.cells #[.int .u8 82, .int .u8 5] 5)) (some ⟨w2.heap.size, 0, none⟩) 2 [82, 5] (reads_new w2 _ [82, 5]) (by decide) (by unfold IsByt; decide) (HEO.out.more (HB2.out.alloc HB2.out.size _) (HB2.out.alloc HB2.out.size _).size) _ rfl).mono ?_)
         rintro e w3 ⟨hb3, A0, c0, rfl, hr3⟩
         have hba : Below W.heap.size W (w2.alloc (.cells #[.int .u8 82, .int .u8 5] 5)) := HB2.out.alloc HB2.out.size _
         have HB3 : Hid (Below W.heap.size W w3) := hba.trans (hb3.mono hba.size)
         have hp3 := (HP2.out.alloc (.cells #[.int .u8 82, .int .u8 5] 5)).below hb3 (HP2.out.alloc (.cells #[.int .u8 82, .int .u8 5] 5)).lt
         have j0 := hp3.cell 0
         have j1 := hp3.cell 1
         have j2 := hp3.cell 2
         have j3 := hp3.cell 3
         have j4 := hp3.cell 4
         have j5 := hp3.cell 5
         have j6 := hp3.cell 6
         have j7 := hp3.cell 7
         have j8 := hp3.cell 8
         simp only [List.getElem?_cons_zero, List.getElem?_cons_succ] at j0 j1 j2 j3 j4 j5 j6 j7 j8
         have HP3 := Lib.hid hp3
         clear hp3 hb3 hba hr3 m0 m1 m2 m3 m4 m5 m6 m7 m8))
    | (go_at_call 11
       go_must (
         (refine (data_calls W.heap.size T _ fo cut A Ab c cb bl (TV.below HB3.out _ _ _ HT.out) HB3.out.size (HU.out.below HB3.out) ((HBL.out.below HB3.out).more HB3.out.size) hbc hbm).mono ?_)
         rintro e w4 hdat
         obtain ⟨A1, m1, c1, b, rfl, hb4, hd⟩ := hdat.cut hc
         have HB4 : Hid (Below W.heap.size W w4) := HB3.out.trans (hb4.mono HB3.out.size)
         have hp4 := HP3.out.below hb4 HP3.out.lt
         have k0 := hp4.cell 0
         have k1 := hp4.cell 1
         have k2 := hp4.cell 2
         have k3 := hp4.cell 3
         have k4 := hp4.cell 4
         have k5 := hp4.cell 5
         have k6 := hp4.cell 6
         have k7 := hp4.cell 7
         have k8 := hp4.cell 8
         simp only [List.getElem?_cons_zero, List.getElem?_cons_succ] at k0 k1 k2 k3 k4 k5 k6 k7 k8
         have HD := Lib.hid hd
         have HP4 := Lib.hid hp4
         clear hdat hd hb4 hp4 j0 j1 j2 j3 j4 j5 j6 j7 j8)))
  all_goals (
    (try simp only [Exit.inBlock, Exit.then])
    go_ret
    first
      | exact ⟨rfl, HB9.out⟩
      | exact ⟨rfl, HB5.out⟩
      | exact ⟨rfl, HB4.out.alloc HB4.out.size _⟩
      | exact ⟨rfl, HB4.out⟩
      | exact ⟨rfl, HB2.out⟩)
set_option maxHeartbeats 4000000 in
set_option maxRecDepth 100000 in
theorem lawU_un_whole (T : VT) (W : World) (fo cut : Int) (A : Bool → Option Addr) (Ab : Option Addr) (c : Bool → Nat) (cb : Nat) (bl : List Int) (h : TV W W.heap.size T A c) (hU : UT W.heap.size W) (hE : EofS W W.heap.size) (hbl : Reads W W.heap.size 1 Ab bl.length (bs bl)) (hbc : bl.length ≤ cb) (hbm : cb ≤ maxLen) (hbb : ∀ x ∈ bl, 0 ≤ x ∧ x ≤ 255) (hk : 2 ≤ T.k ∧ T.k ≤ 5) (hc : ¬ 0 < cut) :
    Calls Tryd.prog 3 #[.agg #[.int .i64 T.k, .int .u64 T.u, .string T.s, .slice (A false) (T.n false) (c false), .int .i64 T.o, .slice (A true) (T.n true) (c true), .int .u64 fo, .slice Ab bl.length cb, .int .i64 cut]] W fun e w' => e = .returned (.bool true) ∧ Below W.heap.size W w' := by
  have k2 : decide ((2 : Int) ≤ T.k) = true := decide_eq_true (by omega)
  have k5 : decide (T.k ≤ (5 : Int)) = true := decide_eq_true (by omega)
  have k6 : decide ((6 : Int) ≤ T.k) = false := decide_eq_false (by omega)
  have k9 : decide (T.k ≤ (9 : Int)) = true := decide_eq_true (by omega)
  have HK := Lib.hid hk
  have hp1 : Blk (W.alloc (.cells #[.int .i64 T.k, .int .u64 T.u, .string T.s, .slice (A false) (T.n false) (c false), .int .i64 T.o, .slice (A true) (T.n true) (c true), .int .u64 fo, .slice Ab bl.length cb, .int .i64 cut] 28)) W.heap.size 28 [.int .i64 T.k, .int .u64 T.u, .string T.s, .slice (A false) (T.n false) (c false), .int .i64 T.o, .slice (A true) (T.n true) (c true), .int .u64 fo, .slice Ab bl.length cb, .int .i64 cut] := Blk.new W _ [_, _, _, _, _, _, _, _, _]
  have hbel : Below W.heap.size W (W.alloc (.cells #[.int .i64 T.k, .int .u64 T.u, .string T.s, .slice (A false) (T.n false) (c false), .int .i64 T.o, .slice (A true) (T.n true) (c true), .int .u64 fo, .slice Ab bl.length cb, .int .i64 cut] 28)) := (Below.refl _ W).alloc (Nat.le_refl _) _
  obtain ⟨hu0, hu1⟩ := tv_u h
  have HP1 := Lib.hid hp1
  have HBEL := Lib.hid hbel
  have HT := Lib.hid h
  have HU := Lib.hid hU
  have HEO := Lib.hid hE
  have HBL := Lib.hid hbl
  have HBB := Lib.hid hbb
  have hbm2 : bl.length ≤ 9223372036854775807 := by simp only [maxLen] at hbm; omega
  have HUU := Lib.hid (And.intro hu0 hu1)
  clear hp1 hbel h hU hE hbl hbb hu0 hu1
  go_enter Tryd.func3, Tryd.ntmps3
  go_wp2_with (first
    | (go_at_call 9
       go_must (
         (refine (zzFits1_calls _ T fo cut A c Ab cb bl).mono ?_)
         rintro e w2 ⟨rfl, hb2⟩
         have hp2 := HP1.out.below hb2 HP1.out.lt
         have m0 := hp2.cell 0
         have m1 := hp2.cell 1
         have m2 := hp2.cell 2
         have m3 := hp2.cell 3
         have m4 := hp2.cell 4
         have m5 := hp2.cell 5
         have m6 := hp2.cell 6
         have m7 := hp2.cell 7
         have m8 := hp2.cell 8
         simp only [List.getElem?_cons_zero, List.getElem?_cons_succ] at m0 m1 m2 m3 m4 m5 m6 m7 m8
         have HP2 := Lib.hid hp2
         have HB2 : Hid (Below W.heap.size W w2) := HBEL.out.trans (hb2.mono HBEL.out.size)
         clear hp2 hb2))
    | (go_at_call 10
       first
       | (have HDD := HD.out
          clear HDD
          go_must (
         (have hbt : b = true := by first | assumption | (have hx : (!b) = false := (by assumption); simpa using hx) | (have hx : b = true ∧ _ := (by assumption); exact hx.1))
         obtain ⟨hfx, h100, hA2, hm2, enc, hfp, hm, hmc, hcm, hr⟩ := HD.out hbt
         obtain ⟨hF, hcnt, hds, het⟩ := hfx
         subst hA2
         subst hm2
         have hen := fpv_len hfp hcnt
         obtain ⟨d, hdd⟩ : ∃ d, d = enc ++ bl := ⟨_, rfl⟩
         have hdl : d.length = m1 := by rw [hdd, hm]
         have hdB : IsByt d := fun x hx => by
           rw [hdd] at hx
           exact (List.mem_append.1 hx).elim (hfp.1 x) (HBB.out x)
         have hdn : d.length ≤ 100000000 := by rw [hdd, List.length_append]; omega
         rw [← hdd, ← hdl] at hr
         have hcl := implReadUnsigned_calls (w4.alloc (.cells #[.int .i64 T.k, .int .u64 T.u, .string T.s, .slice (A false) (T.n false) (c false), .int .i64 T.o, .slice (A true) (T.n true) (c true)] 25)) A1 c1 d ((hr.alloc (Nat.le_refl _) _).more (by simp)) hdn hdB (HEO.out.more (HB4.out.alloc HB4.out.size _) (HB4.out.alloc HB4.out.size _).size) (some (T.u, enc.length)) (by rw [hdd]; exact pU_whole bl hF hds hfp HUU.out.1 HUU.out.2 HK.out)
         rw [hdl] at hcl
         refine hcl.mono ?_
         rintro e w5 ⟨hb5, A5, c5, rfl, hr5⟩
         have hj : d.length - enc.length = bl.length := by rw [hdd, List.length_append]; omega
         have hdr : d.drop enc.length = bl := by rw [hdd]; exact List.drop_left
         rw [hj, hdr] at hr5
         rw [hj]
         have HR5 := Lib.hid hr5
         have hba4 : Below W.heap.size W (w4.alloc (.cells #[.int .i64 T.k, .int .u64 T.u, .string T.s, .slice (A false) (T.n false) (c false), .int .i64 T.o, .slice (A true) (T.n true) (c true)] 25)) := HB4.out.alloc HB4.out.size _
         have HB5 : Hid (Below W.heap.size W w5) := hba4.trans (hb5.mono hba4.size)
         have hpv := (Blk.new w4 25 [.int .i64 T.k, .int .u64 T.u, .string T.s, .slice (A false) (T.n false) (c false), .int .i64 T.o, .slice (A true) (T.n true) (c true)]).below hb5 (by simp)
         have l0 := hpv.cell 0
         have l1 := hpv.cell 1
         have l2 := hpv.cell 2
         have l3 := hpv.cell 3
         have l4 := hpv.cell 4
         have l5 := hpv.cell 5
         simp only [List.getElem?_cons_zero, List.getElem?_cons_succ] at l0 l1 l2 l3 l4 l5
         clear hb5 hpv hba4 hcl hr k0 k1 k2 k3 k4 k5 k6 k7 k8))
       | go_must (
         (refine (implReadUnsigned_calls (w2.alloc (.cells #[.int .u8 82, .int .u8 5] 5)) (some ⟨w2.heap.size, 0, none⟩) 2 [82, 5] (reads_new w2 _ [82, 5]) (by decide) (by unfold IsByt; decide) (HEO.out.more (HB2.out.alloc HB2.out.size _) (HB2.out.alloc HB2.out.size _).size) _ rfl).mono ?_)
         rintro e w3 ⟨hb3, A0, c0, rfl, hr3⟩
         have hba : Below W.heap.size W (w2.alloc (.cells #[.int .u8 82, .int .u8 5] 5)) := HB2.out.alloc HB2.out.size _
         have HB3 : Hid (Below W.heap.size W w3) := hba.trans (hb3.mono hba.size)
         have hp3 := (HP2.out.alloc (.cells #[.int .u8 82, .int .u8 5] 5)).below hb3 (HP2.out.alloc (.cells #[.int .u8 82, .int .u8 5] 5)).lt
         have j0 := hp3.cell 0
         have j1 := hp3.cell 1
         have j2 := hp3.cell 2
         have j3 := hp3.cell 3
         have j4 := hp3.cell 4
         have j5 := hp3.cell 5
         have j6 := hp3.cell 6
         have j7 := hp3.cell 7
         have j8 := hp3.cell 8
         simp only [List.getElem?_cons_zero, List.getElem?_cons_succ] at j0 j1 j2 j3 j4 j5 j6 j7 j8
         have HP3 := Lib.hid hp3
         clear hp3 hb3 hba hr3 m0 m1 m2 m3 m4 m5 m6 m7 m8))
    | (go_at_call 11
       go_must (
         (refine (data_calls W.heap.size T _ fo cut A Ab c cb bl (TV.below HB3.out _ _ _ HT.out) HB3.out.size (HU.out.below HB3.out) ((HBL.out.below HB3.out).more HB3.out.size) hbc hbm).mono ?_)
         rintro e w4 hdat
         obtain ⟨A1, m1, c1, A2, m2, c2, b, rfl, hb4, hd⟩ := hdat.whole (by omega)
         have HB4 : Hid (Below W.heap.size W w4) := HB3.out.trans (hb4.mono HB3.out.size)
         have hp4 := HP3.out.below hb4 HP3.out.lt
         have k0 := hp4.cell 0
         have k1 := hp4.cell 1
         have k2 := hp4.cell 2
         have k3 := hp4.cell 3
         have k4 := hp4.cell 4
         have k5 := hp4.cell 5
         have k6 := hp4.cell 6
         have k7 := hp4.cell 7
         have k8 := hp4.cell 8
         simp only [List.getElem?_cons_zero, List.getElem?_cons_succ] at k0 k1 k2 k3 k4 k5 k6 k7 k8
         have HD := Lib.hid hd
         have HP4 := Lib.hid hp4
         clear hdat hd hb4 hp4 j0 j1 j2 j3 j4 j5 j6 j7 j8))
    | (go_at_call 12
       go_must (
         (refine (left_calls w5 A5 A2 c5 c2 bl HR5.out ((HBL.out.below HB5.out).more HB5.out.size)).mono ?_)
         rintro e w9 ⟨rfl, hb9⟩
         have HB9 : Hid (Below W.heap.size W w9) := HB5.out.trans (hb9.mono HB5.out.size)
         clear hb9)))
  all_goals (
    (try simp only [Exit.inBlock, Exit.then])
    go_ret
    first
      | exact ⟨rfl, HB9.out⟩
      | exact ⟨rfl, HB5.out⟩
      | exact ⟨rfl, HB4.out.alloc HB4.out.size _⟩
      | exact ⟨rfl, HB4.out⟩
      | exact ⟨rfl, HB2.out⟩)
set_option maxHeartbeats 4000000 in
set_option maxRecDepth 100000 in
theorem lawU_si_cut (T : VT) (W : World) (fo cut : Int) (A : Bool → Option Addr) (Ab : Option Addr) (c : Bool → Nat) (cb : Nat) (bl : List Int) (h : TV W W.heap.size T A c) (hU : UT W.heap.size W) (hE : EofS W W.heap.size) (hbl : Reads W W.heap.size 1 Ab bl.length (bs bl)) (hbc : bl.length ≤ cb) (hbm : cb ≤ maxLen) (hbb : ∀ x ∈ bl, 0 ≤ x ∧ x ≤ 255) (hk : 6 ≤ T.k ∧ T.k ≤ 9) (hc : 0 < cut) :
    Calls Tryd.prog 3 #[.agg #[.int .i64 T.k, .int .u64 T.u, .string T.s, .slice (A false) (T.n false) (c false), .int .i64 T.o, .slice (A true) (T.n true) (c true), .int .u64 fo, .slice Ab bl.length cb, .int .i64 cut]] W fun e w' => e = .returned (.bool true) ∧ Below W.heap.size W w' := by
  have k2 : decide ((2 : Int) ≤ T.k) = true := decide_eq_true (by omega)
  have k5 : decide (T.k ≤ (5 : Int)) = false := decide_eq_false (by omega)
  have k6 : decide ((6 : Int) ≤ T.k) = true := decide_eq_true (by omega)
  have k9 : decide (T.k ≤ (9 : Int)) = true := decide_eq_true (by omega)
  have hp1 : Blk (W.alloc (.cells #[.int .i64 T.k, .int .u64 T.u, .string T.s, .slice (A false) (T.n false) (c false), .int .i64 T.o, .slice (A true) (T.n true) (c true), .int .u64 fo, .slice Ab bl.length cb, .int .i64 cut] 28)) W.heap.size 28 [.int .i64 T.k, .int .u64 T.u, .string T.s, .slice (A false) (T.n false) (c false), .int .i64 T.o, .slice (A true) (T.n true) (c true), .int .u64 fo, .slice Ab bl.length cb, .int .i64 cut] := Blk.new W _ [_, _, _, _, _, _, _, _, _]
  have hbel : Below W.heap.size W (W.alloc (.cells #[.int .i64 T.k, .int .u64 T.u, .string T.s, .slice (A false) (T.n false) (c false), .int .i64 T.o, .slice (A true) (T.n true) (c true), .int .u64 fo, .slice Ab bl.length cb, .int .i64 cut] 28)) := (Below.refl _ W).alloc (Nat.le_refl _) _
  obtain ⟨hu0, hu1⟩ := tv_u h
  have HP1 := Lib.hid hp1
  have HBEL := Lib.hid hbel
  have HT := Lib.hid h
  have HU := Lib.hid hU
  have HEO := Lib.hid hE
  have HBL := Lib.hid hbl
  have HBB := Lib.hid hbb
  have hbm2 : bl.length ≤ 9223372036854775807 := by simp only [maxLen] at hbm; omega
  have HUU := Lib.hid (And.intro hu0 hu1)
  clear hp1 hbel h hU hE hbl hbb hu0 hu1
  go_enter Tryd.func3, Tryd.ntmps3
  go_wp2_with (first
    | (go_at_call 9
       go_must (
         (refine (zzFits1_calls _ T fo cut A c Ab cb bl).mono ?_)
         rintro e w2 ⟨rfl, hb2⟩
         have hp2 := HP1.out.below hb2 HP1.out.lt
         have m0 := hp2.cell 0
         have m1 := hp2.cell 1
         have m2 := hp2.cell 2
         have m3 := hp2.cell 3
         have m4 := hp2.cell 4
         have m5 := hp2.cell 5
         have m6 := hp2.cell 6
         have m7 := hp2.cell 7
         have m8 := hp2.cell 8
         simp only [List.getElem?_cons_zero, List.getElem?_cons_succ] at m0 m1 m2 m3 m4 m5 m6 m7 m8
         have HP2 := Lib.hid hp2
         have HB2 : Hid (Below W.heap.size W w2) := HBEL.out.trans (hb2.mono HBEL.out.size)
         clear hp2 hb2))
    | (go_at_call 10
       go_must (
         (refine (implReadUnsigned_calls (w2.alloc (.cells #[.int .u8 82, .int .u8 5] 5)) (some ⟨w2.heap.size, 0, none⟩) 2 [82, 5] (reads_new w2 _ [82, 5]) (by decide) (by unfold IsByt; decide) (HEO.out.more (HB2.out.alloc HB2.out.size _) (HB2.out.alloc HB2.out.size _).size) _ rfl).mono ?_)
         rintro e w3 ⟨hb3, A0, c0, rfl, hr3⟩
         have hba : Below W.heap.size W (w2.alloc (.cells #[.int .u8 82, .int .u8 5] 5)) := HB2.out.alloc HB2.out.size _
         have HB3 : Hid (Below W.heap.size W w3) := hba.trans (hb3.mono hba.size)
         have hp3 := (HP2.out.alloc (.cells #[.int .u8 82, .int .u8 5] 5)).below hb3 (HP2.out.alloc (.cells #[.int .u8 82, .int .u8 5] 5)).lt
         have j0 := hp3.cell 0
         have j1 := hp3.cell 1
         have j2 := hp3.cell 2
         have j3 := hp3.cell 3
         have j4 := hp3.cell 4
         have j5 := hp3.cell 5
         have j6 := hp3.cell 6
         have j7 := hp3.cell 7
         have j8 := hp3.cell 8
         simp only [List.getElem?_cons_zero, List.getElem?_cons_succ] at j0 j1 j2 j3 j4 j5 j6 j7 j8
         have HP3 := Lib.hid hp3
         clear hp3 hb3 hba hr3 m0 m1 m2 m3 m4 m5 m6 m7 m8))
    | (go_at_call 11
       go_must (
         (refine (data_calls W.heap.size T _ fo cut A Ab c cb bl (TV.below HB3.out _ _ _ HT.out) HB3.out.size (HU.out.below HB3.out) ((HBL.out.below HB3.out).more HB3.out.size) hbc hbm).mono ?_)
         rintro e w4 hdat
         obtain ⟨A1, m1, c1, b, rfl, hb4, hd⟩ := hdat.cut hc
         have HB4 : Hid (Below W.heap.size W w4) := HB3.out.trans (hb4.mono HB3.out.size)
         have hp4 := HP3.out.below hb4 HP3.out.lt
         have k0 := hp4.cell 0
         have k1 := hp4.cell 1
         have k2 := hp4.cell 2
         have k3 := hp4.cell 3
         have k4 := hp4.cell 4
         have k5 := hp4.cell 5
         have k6 := hp4.cell 6
         have k7 := hp4.cell 7
         have k8 := hp4.cell 8
         simp only [List.getElem?_cons_zero, List.getElem?_cons_succ] at k0 k1 k2 k3 k4 k5 k6 k7 k8
         have HD := Lib.hid hd
         have HP4 := Lib.hid hp4
         clear hdat hd hb4 hp4 j0 j1 j2 j3 j4 j5 j6 j7 j8)))
  all_goals (
    (try simp only [Exit.inBlock, Exit.then])
    go_ret
    first
      | exact ⟨rfl, HB9.out⟩
      | exact ⟨rfl, HB5.out⟩
      | exact ⟨rfl, HB4.out.alloc HB4.out.size _⟩
      | exact ⟨rfl, HB4.out⟩
      | exact ⟨rfl, HB2.out⟩)
set_option maxHeartbeats 4000000 in
set_option maxRecDepth 100000 in
theorem lawU_si_whole (T : VT) (W : World) (fo cut : Int) (A : Bool → Option Addr) (Ab : Option Addr) (c : Bool → Nat) (cb : Nat) (bl : List Int) (h : TV W W.heap.size T A c) (hU : UT W.heap.size W) (hE : EofS W W.heap.size) (hbl : Reads W W.heap.size 1 Ab bl.length (bs bl)) (hbc : bl.length ≤ cb) (hbm : cb ≤ maxLen) (hbb : ∀ x ∈ bl, 0 ≤ x ∧ x ≤ 255) (hk : 6 ≤ T.k ∧ T.k ≤ 9) (hc : ¬ 0 < cut) :
    Calls Tryd.prog 3 #[.agg #[.int .i64 T.k, .int .u64 T.u, .string T.s, .slice (A false) (T.n false) (c false), .int .i64 T.o, .slice (A true) (T.n true) (c true), .int .u64 fo, .slice Ab bl.length cb, .int .i64 cut]] W fun e w' => e = .returned (.bool true) ∧ Below W.heap.size W w' := by
  have k2 : decide ((2 : Int) ≤ T.k) = true := decide_eq_true (by omega)
  have k5 : decide (T.k ≤ (5 : Int)) = false := decide_eq_false (by omega)
  have k6 : decide ((6 : Int) ≤ T.k) = true := decide_eq_true (by omega)
  have k9 : decide (T.k ≤ (9 : Int)) = true := decide_eq_true (by omega)
  have hp1 : Blk (W.alloc (.cells #[.int .i64 T.k, .int .u64 T.u, .string T.s, .slice (A false) (T.n false) (c false), .int .i64 T.o, .slice (A true) (T.n true) (c true), .int .u64 fo, .slice Ab bl.length cb, .int .i64 cut] 28)) W.heap.size 28 [.int .i64 T.k, .int .u64 T.u, .string T.s, .slice (A false) (T.n false) (c false), .int .i64 T.o, .slice (A true) (T.n true) (c true), .int .u64 fo, .slice Ab bl.length cb, .int .i64 cut] := Blk.new W _ [_, _, _, _, _, _, _, _, _]
  have hbel : Below W.heap.size W (W.alloc (.cells #[.int .i64 T.k, .int .u64 T.u, .string T.s, .slice (A false) (T.n false) (c false), .int .i64 T.o, .slice (A true) (T.n true) (c true), .int .u64 fo, .slice Ab bl.length cb, .int .i64 cut] 28)) := (Below.refl _ W).alloc (Nat.le_refl _) _
  obtain ⟨hu0, hu1⟩ := tv_u h
  have HP1 := Lib.hid hp1
  have HBEL := Lib.hid hbel
  have HT := Lib.hid h
  have HU := Lib.hid hU
  have HEO := Lib.hid hE
  have HBL := Lib.hid hbl
  have HBB := Lib.hid hbb
  have hbm2 : bl.length ≤ 9223372036854775807 := by simp only [maxLen] at hbm; omega
  have HUU := Lib.hid (And.intro hu0 hu1)
  clear hp1 hbel h hU hE hbl hbb hu0 hu1
  go_enter Tryd.func3, Tryd.ntmps3
  go_wp2_with (first
    | (go_at_call 9
       go_must (
         (refine (zzFits1_calls _ T fo cut A c Ab cb bl).mono ?_)
         rintro e w2 ⟨rfl, hb2⟩
         have hp2 := HP1.out.below hb2 HP1.out.lt
         have m0 := hp2.cell 0
         have m1 := hp2.cell 1
         have m2 := hp2.cell 2
         have m3 := hp2.cell 3
         have m4 := hp2.cell 4
         have m5 := hp2.cell 5
         have m6 := hp2.cell 6
         have m7 := hp2.cell 7
         have m8 := hp2.cell 8
         simp only [List.getElem?_cons_zero, List.getElem?_cons_succ] at m0 m1 m2 m3 m4 m5 m6 m7 m8
         have HP2 := Lib.hid hp2
         have HB2 : Hid (Below W.heap.size W w2) := HBEL.out.trans (hb2.mono HBEL.out.size)
         clear hp2 hb2))
    | (go_at_call 10
       go_must (
         (refine (implReadUnsigned_calls (w2.alloc (.cells #[.int .u8 82, .int .u8 5] 5)) (some ⟨w2.heap.size, 0, none⟩) 2 [82, 5] (reads_new w2 _ [82, 5]) (by decide) (by unfold IsByt; decide) (HEO.out.more (HB2.out.alloc HB2.out.size _) (HB2.out.alloc HB2.out.size _).size) _ rfl).mono ?_)
         rintro e w3 ⟨hb3, A0, c0, rfl, hr3⟩
         have hba : Below W.heap.size W (w2.alloc (.cells #[.int .u8 82, .int .u8 5] 5)) := HB2.out.alloc HB2.out.size _
         have HB3 : Hid (Below W.heap.size W w3) := hba.trans (hb3.mono hba.size)
         have hp3 := (HP2.out.alloc (.cells #[.int .u8 82, .int .u8 5] 5)).below hb3 (HP2.out.alloc (.cells #[.int .u8 82, .int .u8 5] 5)).lt
         have j0 := hp3.cell 0
         have j1 := hp3.cell 1
         have j2 := hp3.cell 2
         have j3 := hp3.cell 3
         have j4 := hp3.cell 4
         have j5 := hp3.cell 5
         have j6 := hp3.cell 6
         have j7 := hp3.cell 7
         have j8 := hp3.cell 8
         simp only [List.getElem?_cons_zero, List.getElem?_cons_succ] at j0 j1 j2 j3 j4 j5 j6 j7 j8
         have HP3 := Lib.hid hp3
         clear hp3 hb3 hba hr3 m0 m1 m2 m3 m4 m5 m6 m7 m8))
    | (go_at_call 11
       go_must (
         (refine (data_calls W.heap.size T _ fo cut A Ab c cb bl (TV.below HB3.out _ _ _ HT.out) HB3.out.size (HU.out.below HB3.out) ((HBL.out.below HB3.out).more HB3.out.size) hbc hbm).mono ?_)
         rintro e w4 hdat
         obtain ⟨A1, m1, c1, A2, m2, c2, b, rfl, hb4, hd⟩ := hdat.whole (by omega)
         have HB4 : Hid (Below W.heap.size W w4) := HB3.out.trans (hb4.mono HB3.out.size)
         have hp4 := HP3.out.below hb4 HP3.out.lt
         have k0 := hp4.cell 0
         have k1 := hp4.cell 1
         have k2 := hp4.cell 2
         have k3 := hp4.cell 3
         have k4 := hp4.cell 4
         have k5 := hp4.cell 5
         have k6 := hp4.cell 6
         have k7 := hp4.cell 7
         have k8 := hp4.cell 8
         simp only [List.getElem?_cons_zero, List.getElem?_cons_succ] at k0 k1 k2 k3 k4 k5 k6 k7 k8
         have HD := Lib.hid hd
         have HP4 := Lib.hid hp4
         clear hdat hd hb4 hp4 j0 j1 j2 j3 j4 j5 j6 j7 j8)))
  all_goals (
    (try simp only [Exit.inBlock, Exit.then])
    go_ret
    first
      | exact ⟨rfl, HB9.out⟩
      | exact ⟨rfl, HB5.out⟩
      | exact ⟨rfl, HB4.out.alloc HB4.out.size _⟩
      | exact ⟨rfl, HB4.out⟩
      | exact ⟨rfl, HB2.out⟩)
set_option maxHeartbeats 4000000 in
set_option maxRecDepth 100000 in
theorem lawU_hi_cut (T : VT) (W : World) (fo cut : Int) (A : Bool → Option Addr) (Ab : Option Addr) (c : Bool → Nat) (cb : Nat) (bl : List Int) (h : TV W W.heap.size T A c) (hU : UT W.heap.size W) (hE : EofS W W.heap.size) (hbl : Reads W W.heap.size 1 Ab bl.length (bs bl)) (hbc : bl.length ≤ cb) (hbm : cb ≤ maxLen) (hbb : ∀ x ∈ bl, 0 ≤ x ∧ x ≤ 255) (hk : 10 ≤ T.k) (hc : 0 < cut) :
    Calls Tryd.prog 3 #[.agg #[.int .i64 T.k, .int .u64 T.u, .string T.s, .slice (A false) (T.n false) (c false), .int .i64 T.o, .slice (A true) (T.n true) (c true), .int .u64 fo, .slice Ab bl.length cb, .int .i64 cut]] W fun e w' => e = .returned (.bool true) ∧ Below W.heap.size W w' := by
  have k2 : decide ((2 : Int) ≤ T.k) = true := decide_eq_true (by omega)
  have k5 : decide (T.k ≤ (5 : Int)) = false := decide_eq_false (by omega)
  have k6 : decide ((6 : Int) ≤ T.k) = true := decide_eq_true (by omega)
  have k9 : decide (T.k ≤ (9 : Int)) = false := decide_eq_false (by omega)
  have HK := Lib.hid hk
  have hp1 : Blk (W.alloc (.cells #[.int .i64 T.k, .int .u64 T.u, .string T.s, .slice (A false) (T.n false) (c false), .int .i64 T.o, .slice (A true) (T.n true) (c true), .int .u64 fo, .slice Ab bl.length cb, .int .i64 cut] 28)) W.heap.size 28 [.int .i64 T.k, .int .u64 T.u, .string T.s, .slice (A false) (T.n false) (c false), .int .i64 T.o, .slice (A true) (T.n true) (c true), .int .u64 fo, .slice Ab bl.length cb, .int .i64 cut] := Blk.new W _ [_, _, _, _, _, _, _, _, _]
  have hbel : Below W.heap.size W (W.alloc (.cells #[.int .i64 T.k, .int .u64 T.u, .string T.s, .slice (A false) (T.n false) (c false), .int .i64 T.o, .slice (A true) (T.n true) (c true), .int .u64 fo, .slice Ab bl.length cb, .int .i64 cut] 28)) := (Below.refl _ W).alloc (Nat.le_refl _) _
  obtain ⟨hu0, hu1⟩ := tv_u h
  have HP1 := Lib.hid hp1
  have HBEL := Lib.hid hbel
  have HT := Lib.hid h
  have HU := Lib.hid hU
  have HEO := Lib.hid hE
  have HBL := Lib.hid hbl
  have HBB := Lib.hid hbb
  have hbm2 : bl.length ≤ 9223372036854775807 := by simp only [maxLen] at hbm; omega
  have HUU := Lib.hid (And.intro hu0 hu1)
  clear hp1 hbel h hU hE hbl hbb hu0 hu1
  go_enter Tryd.func3, Tryd.ntmps3
  go_wp2_with (first
    | (go_at_call 9
       go_must (
         (refine (zzFits1_calls _ T fo cut A c Ab cb bl).mono ?_)
         rintro e w2 ⟨rfl, hb2⟩
         have hp2 := HP1.out.below hb2 HP1.out.lt
         have m0 := hp2.cell 0
         have m1 := hp2.cell 1
         have m2 := hp2.cell 2
         have m3 := hp2.cell 3
         have m4 := hp2.cell 4
         have m5 := hp2.cell 5
         have m6 := hp2.cell 6
         have m7 := hp2.cell 7
         have m8 := hp2.cell 8
         simp only [List.getElem?_cons_zero, List.getElem?_cons_succ] at m0 m1 m2 m3 m4 m5 m6 m7 m8
         have HP2 := Lib.hid hp2
         have HB2 : Hid (Below W.heap.size W w2) := HBEL.out.trans (hb2.mono HBEL.out.size)
         clear hp2 hb2))
    | (go_at_call 10
       first
       | (have HDD := HD.out
          clear HDD
          go_must (
         (have hbt : b = true := by first | assumption | (have hx : (!b) = false := (by assumption); simpa using hx) | (have hx : b = true ∧ _ := (by assumption); exact hx.1))
         obtain ⟨hfx, enc, hfp, hm, hmc, hcm, hr⟩ := HD.out hbt
         obtain ⟨hF, hcnt, hds, het⟩ := hfx
         have hen := fpv_len hfp hcnt
         obtain ⟨d, hdd⟩ : ∃ d, d = enc.take m1 := ⟨_, rfl⟩
         have hdl : d.length = m1 := by rw [hdd, List.length_take]; omega
         have hdB : IsByt d := fun x hx => hfp.1 x (List.mem_of_mem_take (by rw [hdd] at hx; exact hx))
         rw [← hdd, ← hdl] at hr
         have hcl := implReadUnsigned_calls (w4.alloc (.cells #[.int .i64 T.k, .int .u64 T.u, .string T.s, .slice (A false) (T.n false) (c false), .int .i64 T.o, .slice (A true) (T.n true) (c true)] 25)) A1 c1 d ((hr.alloc (Nat.le_refl _) _).more (by simp)) (by omega) hdB (HEO.out.more (HB4.out.alloc HB4.out.size _) (HB4.out.alloc HB4.out.size _).size) (none) (by rw [hdd]; exact pU_cut m1 hF hds hfp HUU.out.1 HUU.out.2 (fun h => by have := HK.out; omega) hm)
         rw [hdl] at hcl
         refine hcl.mono ?_
         rintro e w5 ⟨hb5, rfl⟩
         have hba4 : Below W.heap.size W (w4.alloc (.cells #[.int .i64 T.k, .int .u64 T.u, .string T.s, .slice (A false) (T.n false) (c false), .int .i64 T.o, .slice (A true) (T.n true) (c true)] 25)) := HB4.out.alloc HB4.out.size _
         have HB5 : Hid (Below W.heap.size W w5) := hba4.trans (hb5.mono hba4.size)
         have hpv := (Blk.new w4 25 [.int .i64 T.k, .int .u64 T.u, .string T.s, .slice (A false) (T.n false) (c false), .int .i64 T.o, .slice (A true) (T.n true) (c true)]).below hb5 (by simp)
         have l0 := hpv.cell 0
         have l1 := hpv.cell 1
         have l2 := hpv.cell 2
         have l3 := hpv.cell 3
         have l4 := hpv.cell 4
         have l5 := hpv.cell 5
         simp only [List.getElem?_cons_zero, List.getElem?_cons_succ] at l0 l1 l2 l3 l4 l5
         clear hb5 hpv hba4 hcl hr k0 k1 k2 k3 k4 k5 k6 k7 k8))
       | go_must (
         (refine (implReadUnsigned_calls (w2.alloc (.cells #[.int .u8 82, .int .u8 5] 5)) (some ⟨w2.heap.size, 0, none⟩) 2 [82, 5] (reads_new w2 _ [82, 5]) (by decide) (by unfold IsByt; decide) (HEO.out.more (HB2.out.alloc HB2.out.size _) (HB2.out.alloc HB2.out.size _).size) _ rfl).mono ?_)
         rintro e w3 ⟨hb3, A0, c0, rfl, hr3⟩
         have hba : Below W.heap.size W (w2.alloc (.cells #[.int .u8 82, .int .u8 5] 5)) := HB2.out.alloc HB2.out.size _
         have HB3 : Hid (Below W.heap.size W w3) := hba.trans (hb3.mono hba.size)
         have hp3 := (HP2.out.alloc (.cells #[.int .u8 82, .int .u8 5] 5)).below hb3 (HP2.out.alloc (.cells #[.int .u8 82, .int .u8 5] 5)).lt
         have j0 := hp3.cell 0
         have j1 := hp3.cell 1
         have j2 := hp3.cell 2
         have j3 := hp3.cell 3
         have j4 := hp3.cell 4
         have j5 := hp3.cell 5
         have j6 := hp3.cell 6
         have j7 := hp3.cell 7
         have j8 := hp3.cell 8
         simp only [List.getElem?_cons_zero, List.getElem?_cons_succ] at j0 j1 j2 j3 j4 j5 j6 j7 j8
         have HP3 := Lib.hid hp3
         clear hp3 hb3 hba hr3 m0 m1 m2 m3 m4 m5 m6 m7 m8))
    | (go_at_call 11
       go_must (
         (refine (data_calls W.heap.size T _ fo cut A Ab c cb bl (TV.below HB3.out _ _ _ HT.out) HB3.out.size (HU.out.below HB3.out) ((HBL.out.below HB3.out).more HB3.out.size) hbc hbm).mono ?_)
         rintro e w4 hdat
         obtain ⟨A1, m1, c1, b, rfl, hb4, hd⟩ := hdat.cut hc
         have HB4 : Hid (Below W.heap.size W w4) := HB3.out.trans (hb4.mono HB3.out.size)
         have hp4 := HP3.out.below hb4 HP3.out.lt
         have k0 := hp4.cell 0
         have k1 := hp4.cell 1
         have k2 := hp4.cell 2
         have k3 := hp4.cell 3
         have k4 := hp4.cell 4
         have k5 := hp4.cell 5
         have k6 := hp4.cell 6
         have k7 := hp4.cell 7
         have k8 := hp4.cell 8
         simp only [List.getElem?_cons_zero, List.getElem?_cons_succ] at k0 k1 k2 k3 k4 k5 k6 k7 k8
         have HD := Lib.hid hd
         have HP4 := Lib.hid hp4
         clear hdat hd hb4 hp4 j0 j1 j2 j3 j4 j5 j6 j7 j8)))
  all_goals (
    (try simp only [Exit.inBlock, Exit.then])
    go_ret
    first
      | exact ⟨rfl, HB9.out⟩
      | exact ⟨rfl, HB5.out⟩
      | exact ⟨rfl, HB4.out.alloc HB4.out.size _⟩
      | exact ⟨rfl, HB4.out⟩
      | exact ⟨rfl, HB2.out⟩)
set_option maxHeartbeats 4000000 in
set_option maxRecDepth 100000 in
theorem lawU_hi_whole (T : VT) (W : World) (fo cut : Int) (A : Bool → Option Addr) (Ab : Option Addr) (c : Bool → Nat) (cb : Nat) (bl : List Int) (h : TV W W.heap.size T A c) (hU : UT W.heap.size W) (hE : EofS W W.heap.size) (hbl : Reads W W.heap.size 1 Ab bl.length (bs bl)) (hbc : bl.length ≤ cb) (hbm : cb ≤ maxLen) (hbb : ∀ x ∈ bl, 0 ≤ x ∧ x ≤ 255) (hk : 10 ≤ T.k) (hc : ¬ 0 < cut) :
    Calls Tryd.prog 3 #[.agg #[.int .i64 T.k, .int .u64 T.u, .string T.s, .slice (A false) (T.n false) (c false), .int .i64 T.o, .slice (A true) (T.n true) (c true), .int .u64 fo, .slice Ab bl.length cb, .int .i64 cut]] W fun e w' => e = .returned (.bool true) ∧ Below W.heap.size W w' := by
  have k2 : decide ((2 : Int) ≤ T.k) = true := decide_eq_true (by omega)
  have k5 : decide (T.k ≤ (5 : Int)) = false := decide_eq_false (by omega)
  have k6 : decide ((6 : Int) ≤ T.k) = true := decide_eq_true (by omega)
  have k9 : decide (T.k ≤ (9 : Int)) = false := decide_eq_false (by omega)
  have HK := Lib.hid hk
  have hp1 : Blk (W.alloc (.cells #[.int .i64 T.k, .int .u64 T.u, .string T.s, .slice (A false) (T.n false) (c false), .int .i64 T.o, .slice (A true) (T.n true) (c true), .int .u64 fo, .slice Ab bl.length cb, .int .i64 cut] 28)) W.heap.size 28 [.int .i64 T.k, .int .u64 T.u, .string T.s, .slice (A false) (T.n false) (c false), .int .i64 T.o, .slice (A true) (T.n true) (c true), .int .u64 fo, .slice Ab bl.length cb, .int .i64 cut] := Blk.new W _ [_, _, _, _, _, _, _, _, _]
  have hbel : Below W.heap.size W (W.alloc (.cells #[.int .i64 T.k, .int .u64 T.u, .string T.s, .slice (A false) (T.n false) (c false), .int .i64 T.o, .slice (A true) (T.n true) (c true), .int .u64 fo, .slice Ab bl.length cb, .int .i64 cut] 28)) := (Below.refl _ W).alloc (Nat.le_refl _) _
  obtain ⟨hu0, hu1⟩ := tv_u h
  have HP1 := Lib.hid hp1
  have HBEL := Lib.hid hbel
  have HT := Lib.hid h
  have HU := Lib.hid hU
  have HEO := Lib.hid hE
  have HBL := Lib.hid hbl
  have HBB := Lib.hid hbb
  have hbm2 : bl.length ≤ 9223372036854775807 := by simp only [maxLen] at hbm; omega
  have HUU := Lib.hid (And.intro hu0 hu1)
  clear hp1 hbel h hU hE hbl hbb hu0 hu1
  go_enter Tryd.func3, Tryd.ntmps3
  go_wp2_with (first
    | (go_at_call 9
       go_must (
         (refine (zzFits1_calls _ T fo cut A c Ab cb bl).mono ?_)
         rintro e w2 ⟨rfl, hb2⟩
         have hp2 := HP1.out.below hb2 HP1.out.lt
         have m0 := hp2.cell 0
         have m1 := hp2.cell 1
         have m2 := hp2.cell 2
         have m3 := hp2.cell 3
         have m4 := hp2.cell 4
         have m5 := hp2.cell 5
         have m6 := hp2.cell 6
         have m7 := hp2.cell 7
         have m8 := hp2.cell 8
         simp only [List.getElem?_cons_zero, List.getElem?_cons_succ] at m0 m1 m2 m3 m4 m5 m6 m7 m8
         have HP2 := Lib.hid hp2
         have HB2 : Hid (Below W.heap.size W w2) := HBEL.out.trans (hb2.mono HBEL.out.size)
         clear hp2 hb2))
    | (go_at_call 10
       first
       | (have HDD := HD.out
          clear HDD
          go_must (
         (have hbt : b = true := by first | assumption | (have hx : (!b) = false := (by assumption); simpa using hx) | (have hx : b = true ∧ _ := (by assumption); exact hx.1))
         obtain ⟨hfx, h100, hA2, hm2, enc, hfp, hm, hmc, hcm, hr⟩ := HD.out hbt
         obtain ⟨hF, hcnt, hds, het⟩ := hfx
         have hen := fpv_len hfp hcnt
         obtain ⟨d, hdd⟩ : ∃ d, d = enc ++ bl := ⟨_, rfl⟩
         have hdl : d.length = m1 := by rw [hdd, hm]
         have hdB : IsByt d := fun x hx => by
           rw [hdd] at hx
           exact (List.mem_append.1 hx).elim (hfp.1 x) (HBB.out x)
         have hdn : d.length ≤ 100000000 := by rw [hdd, List.length_append]; omega
         rw [← hdd, ← hdl] at hr
         have hcl := implReadUnsigned_calls (w4.alloc (.cells #[.int .i64 T.k, .int .u64 T.u, .string T.s, .slice (A false) (T.n false) (c false), .int .i64 T.o, .slice (A true) (T.n true) (c true)] 25)) A1 c1 d ((hr.alloc (Nat.le_refl _) _).more (by simp)) hdn hdB (HEO.out.more (HB4.out.alloc HB4.out.size _) (HB4.out.alloc HB4.out.size _).size) (none) (by rw [hdd]; exact pU_other bl hF hds hfp (fun h => by have := HK.out; omega))
         rw [hdl] at hcl
         refine hcl.mono ?_
         rintro e w5 ⟨hb5, rfl⟩
         have hba4 : Below W.heap.size W (w4.alloc (.cells #[.int .i64 T.k, .int .u64 T.u, .string T.s, .slice (A false) (T.n false) (c false), .int .i64 T.o, .slice (A true) (T.n true) (c true)] 25)) := HB4.out.alloc HB4.out.size _
         have HB5 : Hid (Below W.heap.size W w5) := hba4.trans (hb5.mono hba4.size)
         have hpv := (Blk.new w4 25 [.int .i64 T.k, .int .u64 T.u, .string T.s, .slice (A false) (T.n false) (c false), .int .i64 T.o, .slice (A true) (T.n true) (c true)]).below hb5 (by simp)
         have l0 := hpv.cell 0
         have l1 := hpv.cell 1
         have l2 := hpv.cell 2
         have l3 := hpv.cell 3
         have l4 := hpv.cell 4
         have l5 := hpv.cell 5
         simp only [List.getElem?_cons_zero, List.getElem?_cons_succ] at l0 l1 l2 l3 l4 l5
         clear hb5 hpv hba4 hcl hr k0 k1 k2 k3 k4 k5 k6 k7 k8))
       | go_must (
         (refine (implReadUnsigned_calls (w2.alloc (.cells #[.int .u8 82, .int .u8 5] 5)) (some ⟨w2.heap.size, 0, none⟩) 2 [82, 5] (reads_new w2 _ [82, 5]) (by decide) (by unfold IsByt; decide) (HEO.out.more (HB2.out.alloc HB2.out.size _) (HB2.out.alloc HB2.out.size _).size) _ rfl).mono ?_)
         rintro e w3 ⟨hb3, A0, c0, rfl, hr3⟩
         have hba : Below W.heap.size W (w2.alloc (.cells #[.int .u8 82, .int .u8 5] 5)) := HB2.out.alloc HB2.out.size _
         have HB3 : Hid (Below W.heap.size W w3) := hba.trans (hb3.mono hba.size)
         have hp3 := (HP2.out.alloc (.cells #[.int .u8 82, .int .u8 5] 5)).below hb3 (HP2.out.alloc (.cells #[.int .u8 82, .int .u8 5] 5)).lt
         have j0 := hp3.cell 0
         have j1 := hp3.cell 1
         have j2 := hp3.cell 2
         have j3 := hp3.cell 3
         have j4 := hp3.cell 4
         have j5 := hp3.cell 5
         have j6 := hp3.cell 6
         have j7 := hp3.cell 7
         have j8 := hp3.cell 8
         simp only [List.getElem?_cons_zero, List.getElem?_cons_succ] at j0 j1 j2 j3 j4 j5 j6 j7 j8
         have HP3 := Lib.hid hp3
         clear hp3 hb3 hba hr3 m0 m1 m2 m3 m4 m5 m6 m7 m8))
    | (go_at_call 11
       go_must (
         (refine (data_calls W.heap.size T _ fo cut A Ab c cb bl (TV.below HB3.out _ _ _ HT.out) HB3.out.size (HU.out.below HB3.out) ((HBL.out.below HB3.out).more HB3.out.size) hbc hbm).mono ?_)
         rintro e w4 hdat
         obtain ⟨A1, m1, c1, A2, m2, c2, b, rfl, hb4, hd⟩ := hdat.whole (by omega)
         have HB4 : Hid (Below W.heap.size W w4) := HB3.out.trans (hb4.mono HB3.out.size)
         have hp4 := HP3.out.below hb4 HP3.out.lt
         have k0 := hp4.cell 0
         have k1 := hp4.cell 1
         have k2 := hp4.cell 2
         have k3 := hp4.cell 3
         have k4 := hp4.cell 4
         have k5 := hp4.cell 5
         have k6 := hp4.cell 6
         have k7 := hp4.cell 7
         have k8 := hp4.cell 8
         simp only [List.getElem?_cons_zero, List.getElem?_cons_succ] at k0 k1 k2 k3 k4 k5 k6 k7 k8
         have HD := Lib.hid hd
         have HP4 := Lib.hid hp4
         clear hdat hd hb4 hp4 j0 j1 j2 j3 j4 j5 j6 j7 j8)))
  all_goals (
    (try simp only [Exit.inBlock, Exit.then])
    go_ret
    first
      | exact ⟨rfl, HB9.out⟩
      | exact ⟨rfl, HB5.out⟩
      | exact ⟨rfl, HB4.out.alloc HB4.out.size _⟩
      | exact ⟨rfl, HB4.out⟩
      | exact ⟨rfl, HB2.out⟩)
theorem lawU_calls (T : VT) (W : World) (fo cut : Int) (A : Bool → Option Addr) (Ab : Option Addr) (c : Bool → Nat) (cb : Nat) (bl : List Int) (h : TV W W.heap.size T A c) (hU : UT W.heap.size W) (hE : EofS W W.heap.size) (hbl : Reads W W.heap.size 1 Ab bl.length (bs bl)) (hbc : bl.length ≤ cb) (hbm : cb ≤ maxLen) (hbb : ∀ x ∈ bl, 0 ≤ x ∧ x ≤ 255) : Calls Tryd.prog 3 #[.agg #[.int .i64 T.k, .int .u64 T.u, .string T.s, .slice (A false) (T.n false) (c false), .int .i64 T.o, .slice (A true) (T.n true) (c true), .int .u64 fo, .slice Ab bl.length cb, .int .i64 cut]] W fun e w' => e = .returned (.bool true) ∧ Below W.heap.size W w' := by
  by_cases hc : 0 < cut
  · rcases (show T.k < 2 ∨ (2 ≤ T.k ∧ T.k ≤ 5) ∨ (6 ≤ T.k ∧ T.k ≤ 9) ∨ 10 ≤ T.k by omega) with hk | hk | hk | hk
    · exact lawU_lo_cut T W fo cut A Ab c cb bl h hU hE hbl hbc hbm hbb hk hc
    · exact lawU_un_cut T W fo cut A Ab c cb bl h hU hE hbl hbc hbm hbb hk hc
    · exact lawU_si_cut T W fo cut A Ab c cb bl h hU hE hbl hbc hbm hbb hk hc
    · exact lawU_hi_cut T W fo cut A Ab c cb bl h hU hE hbl hbc hbm hbb hk hc
  · rcases (show T.k < 2 ∨ (2 ≤ T.k ∧ T.k ≤ 5) ∨ (6 ≤ T.k ∧ T.k ≤ 9) ∨ 10 ≤ T.k by omega) with hk | hk | hk | hk
    · exact lawU_lo_whole T W fo cut A Ab c cb bl h hU hE hbl hbc hbm hbb hk hc
    · exact lawU_un_whole T W fo cut A Ab c cb bl h hU hE hbl hbc hbm hbb hk hc
    · exact lawU_si_whole T W fo cut A Ab c cb bl h hU hE hbl hbc hbm hbb hk hc
    · exact lawU_hi_whole T W fo cut A Ab c cb bl h hU hE hbl hbc hbm hbb hk hc
end Go.Proofs.YtjjhckbidcdkcaaDoor
