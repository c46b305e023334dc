/- GetFloat64 at what PutPack writes; the walk of FnGetFloat64. PRINTED by wip/genue.py. -/
import Derived.Deep.Cut
import Derived.Test.YtlpnaifagiddlaaDoorQa
import Derived.Test.YtlpnaifagiddlaaDoorUd
namespace Go.Proofs.YtlpnaifagiddlaaDoor
open Go.RowKit
set_option linter.unusedVariables false

theorem FP_first {T : PT} {enc : List Int} (hf : FP T enc) (h0 : 0 ≤ T.k) (h10 : T.k ≤ 10) (hu : 0 ≤ T.u) (hb : T.k = 1 → T.u ≤ 1) (h2 : T.k ≠ 2) (h3 : T.k ≠ 3) (h4 : T.k ≠ 4) (h5 : T.k ≠ 5) : ∃ b r, enc = b :: r ∧ 0 ≤ b ∧ b < 256 ∧ b ≠ 202 ∧ b ≠ 203 := by
  obtain ⟨⟨a0, a1, a2, a3, a4, a5, a6, a7⟩, hx1, hx2⟩ := hf
  clear hx1 hx2 a2 a3 a4 a5
  generalize T.k = K at *
  generalize T.u = U at *
  by_cases c0 : K = 0
  · exact ⟨_, _, a0 c0, by omega, by omega, by omega, by omega⟩
  by_cases c1 : K = 1
  · have := hb c1
    exact ⟨_, _, a1 c1, by omega, by omega, by omega, by omega⟩
  by_cases c6 : K = 6
  · obtain ⟨hd, hh, rfl⟩ := a6 c6
    rcases hh with ⟨_, hlt, rfl⟩ | ⟨p, hp, _, rfl⟩
    · exact ⟨_, _, rfl, by omega, by omega, by omega, by omega⟩
    · simp only [List.mem_cons, List.not_mem_nil, or_false] at hp
      rcases hp with rfl | rfl | rfl <;> exact ⟨_, _, rfl, by decide, by decide, by decide, by decide⟩
  obtain ⟨b, r, rfl, o7, o8, o9, o10⟩ := a7 (by omega)
  clear a0 a1 a6 a7
  refine ⟨b, r, rfl, ?_⟩
  have : K = 7 ∨ K = 8 ∨ K = 9 ∨ K = 10 := by omega
  rcases this with e | e | e | e
  · have := o7 e; omega
  · have := o8 e; omega
  · have := o9 e; omega
  · have := o10 e; omega
theorem GF_err (W : World) (c : Nat) (A : Option Addr) (b : Int) (r : List Int) (m : Nat) (hm : m ≤ (b :: r).length) (h0 : 0 ≤ b) (h1 : b < 256) (h2 : b ≠ 202) (h3 : b ≠ 203 ∨ m < 9) (h : Reads W W.heap.size 1 A m (bs ((b :: r).take m))) (hmc : m ≤ c) (hcm : c ≤ maxLen) (ts : TypeId) (vs : Value) (hsh : W.cell? ⟨1, 0, none⟩ = some (.iface ts vs)) :
    Calls Tryd.prog 10 #[.slice A m c] W (GE .u64 W) := by
  by_cases h5 : m < 5
  · exact GF_no W m c A (RF64_none W c m A h5 ts vs hsh)
  obtain ⟨k, rfl⟩ : ∃ k, m = k + 1 := ⟨m - 1, by omega⟩
  obtain ⟨ad, rfl, _, _⟩ := h.2 (by omega)
  have hk : (r.take k).length = k := by simp only [List.length_cons, List.length_take] at hm ⊢; omega
  have h' : Reads W W.heap.size 1 (some ad) (k + 1) (bs ([b] ++ r.take k)) := by simpa only [List.cons_append, List.nil_append, List.take_succ_cons] using h
  obtain ⟨tot, htot⟩ : ∃ tot, tot = r.take k := ⟨_, rfl⟩
  rw [← htot] at h' hk
  subst hk
  by_cases h8 : tot.length < 8
  · exact GF_no W _ c _ (RF64_some W _ c ad b tot h' hmc hcm (Nat.le_refl _) (by omega) h8 h2 ts vs hsh)
  · exact GF_no W _ c _ (RF64_bad W _ c ad b tot h' hmc hcm (Nat.le_refl _) (by omega) h0 h1 h2 (by omega))
theorem GF_five (W : World) (c : Nat) (A : Option Addr) (T : PT) (n : Nat) (enc tot : List Int) (hf : FP T enc) (hk : T.k = 5) (hn : T.u = n) (h1 : (n : Int) < 18446744073709551616) (ht : tot.length ≤ 100) (h : Reads W W.heap.size 1 A (enc ++ tot).length (bs (enc ++ tot))) (hmc : (enc ++ tot).length ≤ c) (hcm : c ≤ maxLen) :
    Calls Tryd.prog 10 #[.slice A (enc ++ tot).length c] W (GFD (fun x => x = n) tot W) := by
  have he := hf.1.2.2.2.2.2.1 hk
  rw [hn] at he
  subst he
  simp only [be8Q] at h hmc ⊢
  rw [lenQ _ tot 9 rfl] at h hmc ⊢
  obtain ⟨ad, rfl, _, _⟩ := h.2 (by omega)
  exact GF_ok W _ c _ _ tot _ (Nat.le_refl _) ht (RF64_d W _ c ad n tot h hmc hcm (Nat.le_refl _) h1)
theorem GF_four (W : World) (c : Nat) (A : Option Addr) (T : PT) (n : Nat) (enc tot : List Int) (hf : FP T enc) (hk : T.k = 4) (hn : T.u = n) (h1 : (n : Int) < 4294967296) (ht : tot.length ≤ 100) (h : Reads W W.heap.size 1 A (enc ++ tot).length (bs (enc ++ tot))) (hmc : (enc ++ tot).length ≤ c) (hcm : c ≤ maxLen) :
    Calls Tryd.prog 10 #[.slice A (enc ++ tot).length c] W (GFD (wideOk n) tot W) := by
  have he := hf.1.2.2.2.2.1 hk
  rw [hn] at he
  subst he
  simp only [be4Q] at h hmc ⊢
  rw [lenQ _ tot 5 rfl] at h hmc ⊢
  obtain ⟨ad, rfl, _, _⟩ := h.2 (by omega)
  by_cases hs : tot.length < 4
  · exact GF_ok W _ c _ _ tot _ (Nat.le_refl _) ht (RF64_s W _ c ad n tot h hmc hcm (Nat.le_refl _) h1 hs)
  · exact GF_ok W _ c _ _ tot _ (Nat.le_refl _) ht (RF64_l W _ c ad n tot h hmc hcm (Nat.le_refl _) h1 (by omega))
theorem GF_rest (W : World) (c : Nat) (A : Option Addr) (T : PT) (enc tot : List Int) (hf : FP T enc) (hfit : Fits T 6) (hwf : T.wf) (h2 : T.k ≠ 2) (h3 : T.k ≠ 3) (h4 : T.k ≠ 4) (h5 : T.k ≠ 5) (h : Reads W W.heap.size 1 A (enc ++ tot).length (bs (enc ++ tot))) (hmc : (enc ++ tot).length ≤ c) (hcm : c ≤ maxLen) (ts : TypeId) (vs : Value) (hsh : W.cell? ⟨1, 0, none⟩ = some (.iface ts vs)) :
    Calls Tryd.prog 10 #[.slice A (enc ++ tot).length c] W (GE .u64 W) := by
  obtain ⟨_, _, hu0, hu1, _⟩ := hwf
  have hok : T.ok 6 := by cases T with | nil => exact hfit.elim | mk => exact hfit.1
  obtain ⟨_, k0, k10, _, _, _, _, _, _, k1, _⟩ := hok
  obtain ⟨b, r, rfl, b0, b1, b2, b3⟩ := FP_first hf k0 k10 hu0 k1 h2 h3 h4 h5
  refine GF_err W c A b (r ++ tot) _ (Nat.le_refl _) b0 b1 b2 (.inl b3) ?_ hmc hcm ts vs hsh
  rw [show (b :: (r ++ tot)).take (b :: r ++ tot).length = b :: r ++ tot from List.take_of_length_le (Nat.le_refl _)]
  exact h
theorem GF_cut (W : World) (c : Nat) (A : Option Addr) (T : PT) (enc : List Int) (hf : FP T enc) (hfit : Fits T 6) (hwf : T.wf) (h2 : T.k ≠ 2) (h3 : T.k ≠ 3) (m : Nat) (hm : m < enc.length) (h : Reads W W.heap.size 1 A m (bs (enc.take m))) (hmc : m ≤ c) (hcm : c ≤ maxLen) (ts : TypeId) (vs : Value) (hsh : W.cell? ⟨1, 0, none⟩ = some (.iface ts vs)) :
    Calls Tryd.prog 10 #[.slice A m c] W (GE .u64 W) := by
  by_cases h4 : T.k = 4
  · have he := hf.1.2.2.2.2.1 h4
    have hl : m < 5 := by rw [he] at hm; simp only [List.length_cons, be_length] at hm; omega
    exact GF_no W m c A (RF64_none W c m A hl ts vs hsh)
  by_cases h5 : T.k = 5
  · have he := hf.1.2.2.2.2.2.1 h5
    have hl : m < 9 := by rw [he] at hm; simp only [List.length_cons, be_length] at hm; omega
    rw [he] at h hm
    exact GF_err W c A 203 _ m (by omega) (by omega) (by omega) (by omega) (.inr hl) h hmc hcm ts vs hsh
  obtain ⟨_, _, hu0, hu1, _⟩ := hwf
  have hok : T.ok 6 := by cases T with | nil => exact hfit.elim | mk => exact hfit.1
  obtain ⟨_, k0, k10, _, _, _, _, _, _, k1, _⟩ := hok
  obtain ⟨b, r, rfl, b0, b1, b2, b3⟩ := FP_first hf k0 k10 hu0 k1 h2 h3 h4 h5
  exact GF_err W c A b r m (by omega) b0 b1 b2 (.inl b3) h hmc hcm ts vs hsh
theorem GF_awake (W : World) : Calls Tryd.prog 10 #[.slice (some ⟨W.heap.size, 0, none⟩) 9 9] (W.alloc (.cells #[.int .u8 203, .int .u8 0, .int .u8 0, .int .u8 0, .int .u8 0, .int .u8 0, .int .u8 0, .int .u8 0, .int .u8 7] 5)) (GFD (fun x => x = 7) [] (W.alloc (.cells #[.int .u8 203, .int .u8 0, .int .u8 0, .int .u8 0, .int .u8 0, .int .u8 0, .int .u8 0, .int .u8 0, .int .u8 7] 5))) := by
  have hb := Blk.new W 5 [.int .u8 203, .int .u8 0, .int .u8 0, .int .u8 0, .int .u8 0, .int .u8 0, .int .u8 0, .int .u8 0, .int .u8 7]
  have hr : Reads (W.alloc (.cells #[.int .u8 203, .int .u8 0, .int .u8 0, .int .u8 0, .int .u8 0, .int .u8 0, .int .u8 0, .int .u8 0, .int .u8 7] 5)) (W.alloc (.cells #[.int .u8 203, .int .u8 0, .int .u8 0, .int .u8 0, .int .u8 0, .int .u8 0, .int .u8 0, .int .u8 0, .int .u8 7] 5)).heap.size 1 (some ⟨W.heap.size, 0, none⟩) 9 (bs ([203, 0, 0, 0, 0, 0, 0, 0, 7] ++ [])) := (hb.reads 0 9 (by simp)).more (show W.heap.size + 1 ≤ _ from hb.lt)
  exact GF_ok _ 9 9 _ _ [] _ (Nat.le_refl _) (by simp) (RF64_d _ _ 9 _ 7 [] hr (by simp) (by simp [maxLen]) (Nat.le_refl _) (by decide))
theorem Dat.any {T : PT} {bl : List Int} {cut : Int} {Ab : Option Addr} {cb : Nat} {w w' : World} {e : Ending} (h : Dat T bl cut Ab cb w e w') :
    ∃ A1 m1 c1 A2 m2 c2 b b2, e = .returned (.tuple #[.slice A1 m1 c1, .slice A2 m2 c2, .bool b2, .bool b]) ∧ Below w.heap.size w w' := by
  obtain ⟨hb, rfl | ⟨hf, h1, h2, enc, he, ⟨_, A, c, m, hm, rfl, h3, h4, hr⟩ | ⟨_, A, c, rfl, h3, h4, hr⟩⟩⟩ := h <;> exact ⟨_, _, _, _, _, _, _, _, rfl, hb⟩
theorem sgl_eq {n : Nat} {x f : Nat} (hx : wideOk n x) (hf : wideOk n f) (hq : (Ieee.double.order f f != some .eq) = false) : x = f := by
  rcases hf with ⟨h1, h2⟩ | ⟨h1, h2⟩
  · rw [order_nan h2] at hq
    cases hq
  · rcases hx with ⟨g1, _⟩ | ⟨_, g2⟩
    · rw [h1] at g1; cases g1
    · rw [g2, h2]
theorem Integer_yes (W : World) (k u x : Int) (s : ByteArray) (A : Option Addr) (n c : Nat) (hI : k = 2 ∨ k = 3) : Calls Tryd.prog 12 #[.agg #[.int .i64 k, .int .u64 u, .string s, .int .i64 x, .slice A n c]] W fun e w' => e = .returned (.bool true) ∧ Below W.heap.size W w' := by
  rcases hI with rfl | rfl
  · exact Integer_2 W 2 u x s A n c
  · exact Integer_3 W 3 u x s A n c

set_option maxHeartbeats 8000000 in
set_option maxRecDepth 100000 in
theorem lawGF_int (T : PT) (W : World) (fo cut : Int) (A Ab : Option Addr) (c cb : Nat) (sh : Bool) (bl : List Int) (hwf : T.wf) (h : TR W W.heap.size T A c) (hbl : Reads W W.heap.size 1 Ab bl.length (bs bl)) (hbc : bl.length ≤ cb) (hbm : cb ≤ maxLen)
    (ts : TypeId) (vs : Value) (hsh : W.cell? ⟨1, 0, none⟩ = some (.iface ts vs)) (hG : 1 < W.heap.size) (hI : T.k = 2 ∨ T.k = 3) :
    Calls Tryd.prog 3 #[.agg #[.int .i64 T.k, .int .u64 T.u, .string T.s, .int .i64 T.x, .slice A T.n c, .int .u64 fo, .bool sh, .slice Ab bl.length cb, .int .i64 cut]] W fun e w' => e = .returned (.bool true) ∧ Below W.heap.size W w' := by
  have hp1 : Blk (W.alloc (.cells #[.int .i64 T.k, .int .u64 T.u, .string T.s, .int .i64 T.x, .slice A T.n c, .int .u64 fo, .bool sh, .slice Ab bl.length cb, .int .i64 cut] 28)) W.heap.size 28 [.int .i64 T.k, .int .u64 T.u, .string T.s, .int .i64 T.x, .slice A T.n c, .int .u64 fo, .bool sh, .slice Ab bl.length cb, .int .i64 cut] := Blk.new W _ [_, _, _, _, _, _, _, _, _]
  have hbel : Below W.heap.size W (W.alloc (.cells #[.int .i64 T.k, .int .u64 T.u, .string T.s, .int .i64 T.x, .slice A T.n c, .int .u64 fo, .bool sh, .slice Ab bl.length cb, .int .i64 cut] 28)) := (Below.refl _ W).alloc (Nat.le_refl _) _
  have HP1 := Lib.hid hp1
  have HBEL := Lib.hid hbel
  have HT := Lib.hid h
  have HBL := Lib.hid hbl
  have HWF := Lib.hid hwf
  have HSH := Lib.hid hsh
  have HG := Lib.hid hG
  have hbm2 : bl.length ≤ 9223372036854775807 := by simp only [maxLen] at hbm; omega
  clear hp1 hbel h hbl hwf hsh hG
  go_enter Tryd.func3, Tryd.ntmps3
  go_wp2_with (first
    | (go_at_call 9
       go_must (
         (refine (zzFits16_calls _ T.k T.u fo T.x cut T.s A Ab T.n c bl.length cb sh).mono ?_)
         rintro e w2 ⟨rfl, hb2⟩
         have hp2 := HP1.out.below hb2 HP1.out.lt
         have m0 := hp2.cell 0
         have m1 := hp2.cell 1
         have m2 := hp2.cell 2
         have m3 := hp2.cell 3
         have m4 := hp2.cell 4
         have m5 := hp2.cell 5
         have m6 := hp2.cell 6
         have m7 := hp2.cell 7
         have m8 := hp2.cell 8
         simp only [List.getElem?_cons_zero, List.getElem?_cons_succ] at m0 m1 m2 m3 m4 m5 m6 m7 m8
         have HP2 := Lib.hid hp2
         have HB2 : Hid (Below W.heap.size W w2) := HBEL.out.trans (hb2.mono HBEL.out.size)
         clear hp2 hb2))
    | (go_at_call 10
       go_must (
         (refine (GF_awake w2).mono ?_)
         rintro e w3 ⟨x0, A0, c0, hx0, rfl, hr3, hb3⟩
         subst hx0
         have hba : Below W.heap.size W (w2.alloc (.cells #[.int .u8 203, .int .u8 0, .int .u8 0, .int .u8 0, .int .u8 0, .int .u8 0, .int .u8 0, .int .u8 0, .int .u8 7] 5)) := HB2.out.alloc HB2.out.size _
         have HB3 : Hid (Below W.heap.size W w3) := hba.trans (hb3.mono hba.size)
         have hp3 := (HP2.out.alloc (.cells #[.int .u8 203, .int .u8 0, .int .u8 0, .int .u8 0, .int .u8 0, .int .u8 0, .int .u8 0, .int .u8 0, .int .u8 7] 5)).below hb3 (HP2.out.alloc (.cells #[.int .u8 203, .int .u8 0, .int .u8 0, .int .u8 0, .int .u8 0, .int .u8 0, .int .u8 0, .int .u8 0, .int .u8 7] 5)).lt
         have j0 := hp3.cell 0
         have j1 := hp3.cell 1
         have j2 := hp3.cell 2
         have j3 := hp3.cell 3
         have j4 := hp3.cell 4
         have j5 := hp3.cell 5
         have j6 := hp3.cell 6
         have j7 := hp3.cell 7
         have j8 := hp3.cell 8
         simp only [List.getElem?_cons_zero, List.getElem?_cons_succ] at j0 j1 j2 j3 j4 j5 j6 j7 j8
         have HP3 := Lib.hid hp3
         clear hp3 hb3 hba hr3 m0 m1 m2 m3 m4 m5 m6 m7 m8))
    | (go_at_call 11
       go_must (
         (refine (data_calls T _ fo cut A Ab c cb sh bl (TR.more HB3.out.size _ _ _ (TR.below HB3.out _ _ _ HT.out)) ((HBL.out.below HB3.out).more HB3.out.size) hbc hbm).mono ?_)
         rintro e w4 hdat
         obtain ⟨A1, m1, c1, A2, m2, c2, b, b2, rfl, hb4⟩ := hdat.any
         have HB4 : Hid (Below W.heap.size W w4) := HB3.out.trans (hb4.mono HB3.out.size)
         have hp4 := HP3.out.below hb4 HP3.out.lt
         have k0 := hp4.cell 0
         have k1 := hp4.cell 1
         have k2 := hp4.cell 2
         have k3 := hp4.cell 3
         have k4 := hp4.cell 4
         have k5 := hp4.cell 5
         have k6 := hp4.cell 6
         have k7 := hp4.cell 7
         have k8 := hp4.cell 8
         simp only [List.getElem?_cons_zero, List.getElem?_cons_succ] at k0 k1 k2 k3 k4 k5 k6 k7 k8
         have HP4 := Lib.hid hp4
         clear hdat hb4 hp4 j0 j1 j2 j3 j4 j5 j6 j7 j8))
    | (go_at_call 12
       go_must (
         (refine (Integer_yes _ T.k T.u T.x T.s A T.n c hI).mono ?_)
         rintro e w6 ⟨rfl, hb6⟩
         have hpv := (Blk.new w4 25 [.int .i64 T.k, .int .u64 T.u, .string T.s, .int .i64 T.x, .slice A T.n c]).below hb6 (by simp)
         have hba6 : Below W.heap.size W (w4.alloc (.cells #[.int .i64 T.k, .int .u64 T.u, .string T.s, .int .i64 T.x, .slice A T.n c] 25)) := HB4.out.alloc HB4.out.size _
         have HB6 : Hid (Below W.heap.size W w6) := hba6.trans (hb6.mono hba6.size)
         have HPV := Lib.hid hpv
         have HB46 := Lib.hid hb6
         clear hb6 hpv hba6)))
  all_goals (
    (try simp only [Exit.inBlock, Exit.then])
    go_ret
    first
      | exact ⟨rfl, HB6.out⟩
      | exact ⟨rfl, HB4.out.alloc HB4.out.size _⟩
      | exact ⟨rfl, HB4.out⟩
      | exact ⟨rfl, HB2.out⟩)

set_option maxHeartbeats 8000000 in
set_option maxRecDepth 100000 in
theorem lawGF_cut (T : PT) (W : World) (fo cut : Int) (A Ab : Option Addr) (c cb : Nat) (sh : Bool) (bl : List Int) (hwf : T.wf) (h : TR W W.heap.size T A c) (hbl : Reads W W.heap.size 1 Ab bl.length (bs bl)) (hbc : bl.length ≤ cb) (hbm : cb ≤ maxLen)
    (ts : TypeId) (vs : Value) (hsh : W.cell? ⟨1, 0, none⟩ = some (.iface ts vs)) (hG : 1 < W.heap.size) (h2 : T.k ≠ 2) (h3 : T.k ≠ 3) (hc : 0 < cut) :
    Calls Tryd.prog 3 #[.agg #[.int .i64 T.k, .int .u64 T.u, .string T.s, .int .i64 T.x, .slice A T.n c, .int .u64 fo, .bool sh, .slice Ab bl.length cb, .int .i64 cut]] W fun e w' => e = .returned (.bool true) ∧ Below W.heap.size W w' := by
  have hp1 : Blk (W.alloc (.cells #[.int .i64 T.k, .int .u64 T.u, .string T.s, .int .i64 T.x, .slice A T.n c, .int .u64 fo, .bool sh, .slice Ab bl.length cb, .int .i64 cut] 28)) W.heap.size 28 [.int .i64 T.k, .int .u64 T.u, .string T.s, .int .i64 T.x, .slice A T.n c, .int .u64 fo, .bool sh, .slice Ab bl.length cb, .int .i64 cut] := Blk.new W _ [_, _, _, _, _, _, _, _, _]
  have hbel : Below W.heap.size W (W.alloc (.cells #[.int .i64 T.k, .int .u64 T.u, .string T.s, .int .i64 T.x, .slice A T.n c, .int .u64 fo, .bool sh, .slice Ab bl.length cb, .int .i64 cut] 28)) := (Below.refl _ W).alloc (Nat.le_refl _) _
  have HP1 := Lib.hid hp1
  have HBEL := Lib.hid hbel
  have HT := Lib.hid h
  have HBL := Lib.hid hbl
  have HWF := Lib.hid hwf
  have HSH := Lib.hid hsh
  have HG := Lib.hid hG
  have hbm2 : bl.length ≤ 9223372036854775807 := by simp only [maxLen] at hbm; omega
  clear hp1 hbel h hbl hwf hsh hG
  go_enter Tryd.func3, Tryd.ntmps3
  go_wp2_with (first
    | (go_at_call 9
       go_must (
         (refine (zzFits16_calls _ T.k T.u fo T.x cut T.s A Ab T.n c bl.length cb sh).mono ?_)
         rintro e w2 ⟨rfl, hb2⟩
         have hp2 := HP1.out.below hb2 HP1.out.lt
         have m0 := hp2.cell 0
         have m1 := hp2.cell 1
         have m2 := hp2.cell 2
         have m3 := hp2.cell 3
         have m4 := hp2.cell 4
         have m5 := hp2.cell 5
         have m6 := hp2.cell 6
         have m7 := hp2.cell 7
         have m8 := hp2.cell 8
         simp only [List.getElem?_cons_zero, List.getElem?_cons_succ] at m0 m1 m2 m3 m4 m5 m6 m7 m8
         have HP2 := Lib.hid hp2
         have HB2 : Hid (Below W.heap.size W w2) := HBEL.out.trans (hb2.mono HBEL.out.size)
         clear hp2 hb2))
    | (go_at_call 10
       first
       | (have HDD := HPV.out
          clear HDD
          go_must (
         (have hbt2 : b = true := by first | assumption | (have hx : (!b) = false := (by assumption); simpa using hx))
         obtain ⟨hfit, hl100, enc, hfp, hm, hmc, hcm, hr⟩ := HD.out hbt2
         refine (GF_cut w6 c1 A1 T enc hfp hfit HWF.out h2 h3 m1 hm (((hr.alloc (Nat.le_refl _) _).more (by simp)).below HB46.out |>.more HB46.out.size) hmc hcm ts vs ?_).mono ?_
         · rw [HB6.out.cell (by show _ < _; exact HG.out)]; exact HSH.out
         rintro e w5 ⟨rfl, hb5⟩
         have HB5 : Hid (Below W.heap.size W w5) := HB6.out.trans (hb5.mono HB6.out.size)
         have hpw := HPV.out.below hb5 HPV.out.lt
         have v0 := hpw.cell 0
         have v1 := hpw.cell 1
         simp only [List.getElem?_cons_zero, List.getElem?_cons_succ] at v0 v1
         clear hpw hb5))
       |
       go_must (
         (refine (GF_awake w2).mono ?_)
         rintro e w3 ⟨x0, A0, c0, hx0, rfl, hr3, hb3⟩
         subst hx0
         have hba : Below W.heap.size W (w2.alloc (.cells #[.int .u8 203, .int .u8 0, .int .u8 0, .int .u8 0, .int .u8 0, .int .u8 0, .int .u8 0, .int .u8 0, .int .u8 7] 5)) := HB2.out.alloc HB2.out.size _
         have HB3 : Hid (Below W.heap.size W w3) := hba.trans (hb3.mono hba.size)
         have hp3 := (HP2.out.alloc (.cells #[.int .u8 203, .int .u8 0, .int .u8 0, .int .u8 0, .int .u8 0, .int .u8 0, .int .u8 0, .int .u8 0, .int .u8 7] 5)).below hb3 (HP2.out.alloc (.cells #[.int .u8 203, .int .u8 0, .int .u8 0, .int .u8 0, .int .u8 0, .int .u8 0, .int .u8 0, .int .u8 0, .int .u8 7] 5)).lt
         have j0 := hp3.cell 0
         have j1 := hp3.cell 1
         have j2 := hp3.cell 2
         have j3 := hp3.cell 3
         have j4 := hp3.cell 4
         have j5 := hp3.cell 5
         have j6 := hp3.cell 6
         have j7 := hp3.cell 7
         have j8 := hp3.cell 8
         simp only [List.getElem?_cons_zero, List.getElem?_cons_succ] at j0 j1 j2 j3 j4 j5 j6 j7 j8
         have HP3 := Lib.hid hp3
         clear hp3 hb3 hba hr3 m0 m1 m2 m3 m4 m5 m6 m7 m8))
    | (go_at_call 11
       go_must (
         (refine (data_calls T _ fo cut A Ab c cb sh bl (TR.more HB3.out.size _ _ _ (TR.below HB3.out _ _ _ HT.out)) ((HBL.out.below HB3.out).more HB3.out.size) hbc hbm).mono ?_)
         rintro e w4 hdat
         obtain ⟨A1, m1, c1, b, rfl, hb4, hd⟩ := hdat.cut hc
         have HB4 : Hid (Below W.heap.size W w4) := HB3.out.trans (hb4.mono HB3.out.size)
         have hp4 := HP3.out.below hb4 HP3.out.lt
         have k0 := hp4.cell 0
         have k1 := hp4.cell 1
         have k2 := hp4.cell 2
         have k3 := hp4.cell 3
         have k4 := hp4.cell 4
         have k5 := hp4.cell 5
         have k6 := hp4.cell 6
         have k7 := hp4.cell 7
         have k8 := hp4.cell 8
         simp only [List.getElem?_cons_zero, List.getElem?_cons_succ] at k0 k1 k2 k3 k4 k5 k6 k7 k8
         have HD := Lib.hid hd
         have HP4 := Lib.hid hp4
         clear hdat hd hb4 hp4 j0 j1 j2 j3 j4 j5 j6 j7 j8))
    | (go_at_call 12
       go_must (
         (refine (Integer_no _ T.k T.u T.x T.s A T.n c h2 h3).mono ?_)
         rintro e w6 ⟨rfl, hb6⟩
         have hpv := (Blk.new w4 25 [.int .i64 T.k, .int .u64 T.u, .string T.s, .int .i64 T.x, .slice A T.n c]).below hb6 (by simp)
         have hba6 : Below W.heap.size W (w4.alloc (.cells #[.int .i64 T.k, .int .u64 T.u, .string T.s, .int .i64 T.x, .slice A T.n c] 25)) := HB4.out.alloc HB4.out.size _
         have HB6 : Hid (Below W.heap.size W w6) := hba6.trans (hb6.mono hba6.size)
         have HPV := Lib.hid hpv
         have HB46 := Lib.hid hb6
         clear hb6 hpv hba6)))
  all_goals (
    (try simp only [Exit.inBlock, Exit.then])
    go_ret
    first
      | exact ⟨rfl, HB5.out⟩
      | exact ⟨rfl, HB6.out⟩
      | exact ⟨rfl, HB4.out.alloc HB4.out.size _⟩
      | exact ⟨rfl, HB4.out⟩
      | exact ⟨rfl, HB2.out⟩)

set_option maxHeartbeats 8000000 in
set_option maxRecDepth 100000 in
theorem lawGF_dbl (T : PT) (W : World) (fo cut : Int) (A Ab : Option Addr) (c cb : Nat) (sh : Bool) (bl : List Int) (hwf : T.wf) (h : TR W W.heap.size T A c) (hbl : Reads W W.heap.size 1 Ab bl.length (bs bl)) (hbc : bl.length ≤ cb) (hbm : cb ≤ maxLen)
    (ts : TypeId) (vs : Value) (hsh : W.cell? ⟨1, 0, none⟩ = some (.iface ts vs)) (hG : 1 < W.heap.size) (hk : T.k = 5) (hc : ¬ 0 < cut) :
    Calls Tryd.prog 3 #[.agg #[.int .i64 T.k, .int .u64 T.u, .string T.s, .int .i64 T.x, .slice A T.n c, .int .u64 fo, .bool sh, .slice Ab bl.length cb, .int .i64 cut]] W fun e w' => e = .returned (.bool true) ∧ Below W.heap.size W w' := by
  have hp1 : Blk (W.alloc (.cells #[.int .i64 T.k, .int .u64 T.u, .string T.s, .int .i64 T.x, .slice A T.n c, .int .u64 fo, .bool sh, .slice Ab bl.length cb, .int .i64 cut] 28)) W.heap.size 28 [.int .i64 T.k, .int .u64 T.u, .string T.s, .int .i64 T.x, .slice A T.n c, .int .u64 fo, .bool sh, .slice Ab bl.length cb, .int .i64 cut] := Blk.new W _ [_, _, _, _, _, _, _, _, _]
  have hbel : Below W.heap.size W (W.alloc (.cells #[.int .i64 T.k, .int .u64 T.u, .string T.s, .int .i64 T.x, .slice A T.n c, .int .u64 fo, .bool sh, .slice Ab bl.length cb, .int .i64 cut] 28)) := (Below.refl _ W).alloc (Nat.le_refl _) _
  have h2 : T.k ≠ 2 := by omega
  have h3 : T.k ≠ 3 := by omega
  obtain ⟨n, hn⟩ : ∃ n : Nat, T.u = n := ⟨T.u.toNat, by have := hwf.2.2.1; omega⟩
  have hkk := Lib.hid hk
  have hnn := Lib.hid hn
  have hbt := fun x W => bits64 x W
  have hfd := fun W => frombits64 n W
  have hnq := fun x y W => run_neq (P := Tryd.prog) 35 x y W
  have HP1 := Lib.hid hp1
  have HBEL := Lib.hid hbel
  have HT := Lib.hid h
  have HBL := Lib.hid hbl
  have HWF := Lib.hid hwf
  have HSH := Lib.hid hsh
  have HG := Lib.hid hG
  have hbm2 : bl.length ≤ 9223372036854775807 := by simp only [maxLen] at hbm; omega
  clear hp1 hbel h hbl hwf hsh hG hk hn
  go_enter Tryd.func3, Tryd.ntmps3
  go_wp2_with (first
    | (go_at_call 9
       go_must (
         (refine (zzFits16_calls _ T.k T.u fo T.x cut T.s A Ab T.n c bl.length cb sh).mono ?_)
         rintro e w2 ⟨rfl, hb2⟩
         have hp2 := HP1.out.below hb2 HP1.out.lt
         have m0 := hp2.cell 0
         have m1 := hp2.cell 1
         have m2 := hp2.cell 2
         have m3 := hp2.cell 3
         have m4 := hp2.cell 4
         have m5 := hp2.cell 5
         have m6 := hp2.cell 6
         have m7 := hp2.cell 7
         have m8 := hp2.cell 8
         simp only [List.getElem?_cons_zero, List.getElem?_cons_succ] at m0 m1 m2 m3 m4 m5 m6 m7 m8
         have HP2 := Lib.hid hp2
         have HB2 : Hid (Below W.heap.size W w2) := HBEL.out.trans (hb2.mono HBEL.out.size)
         clear hp2 hb2))
    | (go_at_call 10
       first
       | (have HDD := HPV.out
          clear HDD
          go_must (
         (have hbt2 : b = true := by first | assumption | (have hx : (!b) = false := (by assumption); simpa using hx))
         obtain ⟨hfit, hl100, hA2, hm2, enc, hfp, hm, hmc, hcm, hr⟩ := HD.out hbt2
         subst hA2
         subst hm2
         subst hm
         refine (GF_five w6 c1 A1 T n enc bl hfp hkk.out hnn.out (by have := HWF.out.2.2.2.1; have := hnn.out; omega) hl100 (((hr.alloc (Nat.le_refl _) _).more (by simp)).below HB46.out |>.more HB46.out.size) hmc hcm).mono ?_
         rintro e w5 ⟨x5, A5, c5, hx5, rfl, hr5, hb5⟩
         have HR5 := Lib.hid hr5
         subst hx5
         clear hr5
         have HB5 : Hid (Below W.heap.size W w5) := HB6.out.trans (hb5.mono HB6.out.size)
         have hpw := HPV.out.below hb5 HPV.out.lt
         have v0 := hpw.cell 0
         have v1 := hpw.cell 1
         simp only [List.getElem?_cons_zero, List.getElem?_cons_succ] at v0 v1
         rw [hkk.out] at v0
         rw [hnn.out] at v1
         clear hpw hb5))
       |
       go_must (
         (refine (GF_awake w2).mono ?_)
         rintro e w3 ⟨x0, A0, c0, hx0, rfl, hr3, hb3⟩
         subst hx0
         have hba : Below W.heap.size W (w2.alloc (.cells #[.int .u8 203, .int .u8 0, .int .u8 0, .int .u8 0, .int .u8 0, .int .u8 0, .int .u8 0, .int .u8 0, .int .u8 7] 5)) := HB2.out.alloc HB2.out.size _
         have HB3 : Hid (Below W.heap.size W w3) := hba.trans (hb3.mono hba.size)
         have hp3 := (HP2.out.alloc (.cells #[.int .u8 203, .int .u8 0, .int .u8 0, .int .u8 0, .int .u8 0, .int .u8 0, .int .u8 0, .int .u8 0, .int .u8 7] 5)).below hb3 (HP2.out.alloc (.cells #[.int .u8 203, .int .u8 0, .int .u8 0, .int .u8 0, .int .u8 0, .int .u8 0, .int .u8 0, .int .u8 0, .int .u8 7] 5)).lt
         have j0 := hp3.cell 0
         have j1 := hp3.cell 1
         have j2 := hp3.cell 2
         have j3 := hp3.cell 3
         have j4 := hp3.cell 4
         have j5 := hp3.cell 5
         have j6 := hp3.cell 6
         have j7 := hp3.cell 7
         have j8 := hp3.cell 8
         simp only [List.getElem?_cons_zero, List.getElem?_cons_succ] at j0 j1 j2 j3 j4 j5 j6 j7 j8
         have HP3 := Lib.hid hp3
         clear hp3 hb3 hba hr3 m0 m1 m2 m3 m4 m5 m6 m7 m8))
    | (go_at_call 11
       go_must (
         (refine (data_calls T _ fo cut A Ab c cb sh bl (TR.more HB3.out.size _ _ _ (TR.below HB3.out _ _ _ HT.out)) ((HBL.out.below HB3.out).more HB3.out.size) hbc hbm).mono ?_)
         rintro e w4 hdat
         obtain ⟨A1, m1, c1, A2, m2, c2, b, rfl, hb4, hd⟩ := hdat.whole (by omega)
         have HB4 : Hid (Below W.heap.size W w4) := HB3.out.trans (hb4.mono HB3.out.size)
         have hp4 := HP3.out.below hb4 HP3.out.lt
         have k0 := hp4.cell 0
         have k1 := hp4.cell 1
         have k2 := hp4.cell 2
         have k3 := hp4.cell 3
         have k4 := hp4.cell 4
         have k5 := hp4.cell 5
         have k6 := hp4.cell 6
         have k7 := hp4.cell 7
         have k8 := hp4.cell 8
         simp only [List.getElem?_cons_zero, List.getElem?_cons_succ] at k0 k1 k2 k3 k4 k5 k6 k7 k8
         have HD := Lib.hid hd
         have HP4 := Lib.hid hp4
         clear hdat hd hb4 hp4 j0 j1 j2 j3 j4 j5 j6 j7 j8))
    | (go_at_call 12
       go_must (
         (refine (Integer_no _ T.k T.u T.x T.s A T.n c h2 h3).mono ?_)
         rintro e w6 ⟨rfl, hb6⟩
         have hpv := (Blk.new w4 25 [.int .i64 T.k, .int .u64 T.u, .string T.s, .int .i64 T.x, .slice A T.n c]).below hb6 (by simp)
         have hba6 : Below W.heap.size W (w4.alloc (.cells #[.int .i64 T.k, .int .u64 T.u, .string T.s, .int .i64 T.x, .slice A T.n c] 25)) := HB4.out.alloc HB4.out.size _
         have HB6 : Hid (Below W.heap.size W w6) := hba6.trans (hb6.mono hba6.size)
         have HPV := Lib.hid hpv
         have HB46 := Lib.hid hb6
         clear hb6 hpv hba6))
    | (go_at_call 16
       go_must (
         (have hbx : Below W.heap.size W _ := HB5.out)
         (refine (left_calls _ A5 A2 c5 c2 bl HR5.out ((HBL.out.below hbx).more hbx.size)).mono ?_)
         rintro e w9 ⟨rfl, hb9⟩
         have HB9 : Hid (Below W.heap.size W w9) := hbx.trans (hb9.mono hbx.size)
         clear hb9 hbx)))
  all_goals (
    (try simp only [Exit.inBlock, Exit.then])
    go_ret
    first
      | exact ⟨rfl, HB9.out⟩
      | exact ⟨by simp, HB9.out⟩
      | exact ⟨rfl, HB5.out⟩
      | exact ⟨rfl, HB6.out⟩
      | exact ⟨rfl, HB4.out.alloc HB4.out.size _⟩
      | exact ⟨rfl, HB4.out⟩
      | exact ⟨rfl, HB2.out⟩)

set_option maxHeartbeats 8000000 in
set_option maxRecDepth 100000 in
theorem lawGF_sgl (T : PT) (W : World) (fo cut : Int) (A Ab : Option Addr) (c cb : Nat) (sh : Bool) (bl : List Int) (hwf : T.wf) (h : TR W W.heap.size T A c) (hbl : Reads W W.heap.size 1 Ab bl.length (bs bl)) (hbc : bl.length ≤ cb) (hbm : cb ≤ maxLen)
    (ts : TypeId) (vs : Value) (hsh : W.cell? ⟨1, 0, none⟩ = some (.iface ts vs)) (hG : 1 < W.heap.size) (hk : T.k = 4) (hc : ¬ 0 < cut) :
    Calls Tryd.prog 3 #[.agg #[.int .i64 T.k, .int .u64 T.u, .string T.s, .int .i64 T.x, .slice A T.n c, .int .u64 fo, .bool sh, .slice Ab bl.length cb, .int .i64 cut]] W fun e w' => e = .returned (.bool true) ∧ Below W.heap.size W w' := by
  have hp1 : Blk (W.alloc (.cells #[.int .i64 T.k, .int .u64 T.u, .string T.s, .int .i64 T.x, .slice A T.n c, .int .u64 fo, .bool sh, .slice Ab bl.length cb, .int .i64 cut] 28)) W.heap.size 28 [.int .i64 T.k, .int .u64 T.u, .string T.s, .int .i64 T.x, .slice A T.n c, .int .u64 fo, .bool sh, .slice Ab bl.length cb, .int .i64 cut] := Blk.new W _ [_, _, _, _, _, _, _, _, _]
  have hbel : Below W.heap.size W (W.alloc (.cells #[.int .i64 T.k, .int .u64 T.u, .string T.s, .int .i64 T.x, .slice A T.n c, .int .u64 fo, .bool sh, .slice Ab bl.length cb, .int .i64 cut] 28)) := (Below.refl _ W).alloc (Nat.le_refl _) _
  have h2 : T.k ≠ 2 := by omega
  have h3 : T.k ≠ 3 := by omega
  obtain ⟨n, hn⟩ : ∃ n : Nat, T.u = n := ⟨T.u.toNat, by have := hwf.2.2.1; omega⟩
  have hkk := Lib.hid hk
  have hnn := Lib.hid hn
  have hbt := fun x W => bits64 x W
  have hfd := fun W => frombits64 n W
  have hnq := fun x y W => run_neq (P := Tryd.prog) 35 x y W
  obtain ⟨G, nG, hGw, hGo⟩ := widen2 (P := Tryd.prog) 37 35 (by kernel_rfl) Tryd.underlying35 n
  have HGO := Lib.hid hGo
  clear hGo
  have hfs := fun W => frombits32 n W
  have HP1 := Lib.hid hp1
  have HBEL := Lib.hid hbel
  have HT := Lib.hid h
  have HBL := Lib.hid hbl
  have HWF := Lib.hid hwf
  have HSH := Lib.hid hsh
  have HG := Lib.hid hG
  have hbm2 : bl.length ≤ 9223372036854775807 := by simp only [maxLen] at hbm; omega
  clear hp1 hbel h hbl hwf hsh hG hk hn
  go_enter Tryd.func3, Tryd.ntmps3
  go_upto_region 15 with (first
    | (go_at_call 9
       go_must (
         (refine (zzFits16_calls _ T.k T.u fo T.x cut T.s A Ab T.n c bl.length cb sh).mono ?_)
         rintro e w2 ⟨rfl, hb2⟩
         have hp2 := HP1.out.below hb2 HP1.out.lt
         have m0 := hp2.cell 0
         have m1 := hp2.cell 1
         have m2 := hp2.cell 2
         have m3 := hp2.cell 3
         have m4 := hp2.cell 4
         have m5 := hp2.cell 5
         have m6 := hp2.cell 6
         have m7 := hp2.cell 7
         have m8 := hp2.cell 8
         simp only [List.getElem?_cons_zero, List.getElem?_cons_succ] at m0 m1 m2 m3 m4 m5 m6 m7 m8
         have HP2 := Lib.hid hp2
         have HB2 : Hid (Below W.heap.size W w2) := HBEL.out.trans (hb2.mono HBEL.out.size)
         clear hp2 hb2))
    | (go_at_call 10
       first
       | (have HDD := HPV.out
          clear HDD
          go_must (
         (have hbt2 : b = true := by first | assumption | (have hx : (!b) = false := (by assumption); simpa using hx))
         obtain ⟨hfit, hl100, hA2, hm2, enc, hfp, hm, hmc, hcm, hr⟩ := HD.out hbt2
         subst hA2
         subst hm2
         subst hm
         have hn32 : Hid ((n : Int) < 4294967296) := by
           show (n : Int) < 4294967296
           have hok : T.ok 6 := by cases T with | nil => exact hfit.elim | mk => exact hfit.1
           have := hok.2.2.2.2.2.2.2.2.2.2.1 hkk.out
           have := hnn.out
           omega
         have hwn : IntKind.u32.wrap (n : Int) = n := by have := hn32.out; rw [IntKind.wrap_u32]; omega
         refine (GF_four w6 c1 A1 T n enc bl hfp hkk.out hnn.out hn32.out hl100 (((hr.alloc (Nat.le_refl _) _).more (by simp)).below HB46.out |>.more HB46.out.size) hmc hcm).mono ?_
         rintro e w5 ⟨x5, A5, c5, hx5, rfl, hr5, hb5⟩
         have HR5 := Lib.hid hr5
         have HX5 := Lib.hid hx5
         clear hr5 hx5
         have HB5 : Hid (Below W.heap.size W w5) := HB6.out.trans (hb5.mono HB6.out.size)
         have hpw := HPV.out.below hb5 HPV.out.lt
         have v0 := hpw.cell 0
         have v1 := hpw.cell 1
         simp only [List.getElem?_cons_zero, List.getElem?_cons_succ] at v0 v1
         rw [hkk.out] at v0
         rw [hnn.out] at v1
         clear hpw hb5))
       |
       go_must (
         (refine (GF_awake w2).mono ?_)
         rintro e w3 ⟨x0, A0, c0, hx0, rfl, hr3, hb3⟩
         subst hx0
         have hba : Below W.heap.size W (w2.alloc (.cells #[.int .u8 203, .int .u8 0, .int .u8 0, .int .u8 0, .int .u8 0, .int .u8 0, .int .u8 0, .int .u8 0, .int .u8 7] 5)) := HB2.out.alloc HB2.out.size _
         have HB3 : Hid (Below W.heap.size W w3) := hba.trans (hb3.mono hba.size)
         have hp3 := (HP2.out.alloc (.cells #[.int .u8 203, .int .u8 0, .int .u8 0, .int .u8 0, .int .u8 0, .int .u8 0, .int .u8 0, .int .u8 0, .int .u8 7] 5)).below hb3 (HP2.out.alloc (.cells #[.int .u8 203, .int .u8 0, .int .u8 0, .int .u8 0, .int .u8 0, .int .u8 0, .int .u8 0, .int .u8 0, .int .u8 7] 5)).lt
         have j0 := hp3.cell 0
         have j1 := hp3.cell 1
         have j2 := hp3.cell 2
         have j3 := hp3.cell 3
         have j4 := hp3.cell 4
         have j5 := hp3.cell 5
         have j6 := hp3.cell 6
         have j7 := hp3.cell 7
         have j8 := hp3.cell 8
         simp only [List.getElem?_cons_zero, List.getElem?_cons_succ] at j0 j1 j2 j3 j4 j5 j6 j7 j8
         have HP3 := Lib.hid hp3
         clear hp3 hb3 hba hr3 m0 m1 m2 m3 m4 m5 m6 m7 m8))
    | (go_at_call 11
       go_must (
         (refine (data_calls T _ fo cut A Ab c cb sh bl (TR.more HB3.out.size _ _ _ (TR.below HB3.out _ _ _ HT.out)) ((HBL.out.below HB3.out).more HB3.out.size) hbc hbm).mono ?_)
         rintro e w4 hdat
         obtain ⟨A1, m1, c1, A2, m2, c2, b, rfl, hb4, hd⟩ := hdat.whole (by omega)
         have HB4 : Hid (Below W.heap.size W w4) := HB3.out.trans (hb4.mono HB3.out.size)
         have hp4 := HP3.out.below hb4 HP3.out.lt
         have k0 := hp4.cell 0
         have k1 := hp4.cell 1
         have k2 := hp4.cell 2
         have k3 := hp4.cell 3
         have k4 := hp4.cell 4
         have k5 := hp4.cell 5
         have k6 := hp4.cell 6
         have k7 := hp4.cell 7
         have k8 := hp4.cell 8
         simp only [List.getElem?_cons_zero, List.getElem?_cons_succ] at k0 k1 k2 k3 k4 k5 k6 k7 k8
         have HD := Lib.hid hd
         have HP4 := Lib.hid hp4
         clear hdat hd hb4 hp4 j0 j1 j2 j3 j4 j5 j6 j7 j8))
    | (go_at_call 12
       go_must (
         (refine (Integer_no _ T.k T.u T.x T.s A T.n c h2 h3).mono ?_)
         rintro e w6 ⟨rfl, hb6⟩
         have hpv := (Blk.new w4 25 [.int .i64 T.k, .int .u64 T.u, .string T.s, .int .i64 T.x, .slice A T.n c]).below hb6 (by simp)
         have hba6 : Below W.heap.size W (w4.alloc (.cells #[.int .i64 T.k, .int .u64 T.u, .string T.s, .int .i64 T.x, .slice A T.n c] 25)) := HB4.out.alloc HB4.out.size _
         have HB6 : Hid (Below W.heap.size W w6) := hba6.trans (hb6.mono hba6.size)
         have HPV := Lib.hid hpv
         have HB46 := Lib.hid hb6
         clear hb6 hpv hba6))
    | (go_at_call 16
       go_must (
         (have hbx : Below W.heap.size W _ := below_drewN HB5.out _)
         (refine (left_calls _ A5 A2 c5 c2 bl (HR5.out.drewN _) ((HBL.out.below hbx).more hbx.size)).mono ?_)
         rintro e w9 ⟨rfl, hb9⟩
         have HB9 : Hid (Below W.heap.size W w9) := hbx.trans (hb9.mono hbx.size)
         clear hb9 hbx)))
  all_goals (try (((try simp only [Exit.inBlock, Exit.then]); go_ret; first
      | exact ⟨rfl, below_drewN HB5.out _⟩
      | exact ⟨rfl, HB5.out⟩
      | exact ⟨rfl, HB6.out⟩
      | exact ⟨rfl, HB4.out.alloc HB4.out.size _⟩
      | exact ⟨rfl, HB4.out⟩
      | exact ⟨rfl, HB2.out⟩)))
  obtain ⟨fv, hfv⟩ : ∃ fv, fv = G w5 := ⟨_, rfl⟩
  obtain ⟨w8, hw8⟩ : ∃ w8, w8 = w5.drewN (nG w5) := ⟨_, rfl⟩
  have HFV : Hid (wideOk n fv) := by have := HGO.out w5; rw [← hfv] at this; exact this
  have HB8 : Hid (Below W.heap.size W w8) := by have := below_drewN HB5.out (nG w5); rw [← hw8] at this; exact this
  have HR8 : Hid (Reads w8 w8.heap.size 1 A5 bl.length (bs bl)) := by have := HR5.out.drewN (nG w5); rw [← hw8] at this; rw [hw8]; rw [hw8] at this; exact this
  rw [← hfv, ← hw8]
  clear hfv hw8 hGw HGO HD hr hfp hfit hmc hcm hwn hn32 v0 v1 k0 k1 k2 k3 k4 k5 k6 k7 k8
  cases hq : (Ieee.double.order fv fv != some .eq)
  · obtain rfl := sgl_eq HX5.out HFV.out hq
    go_wp2_with (first
      | (go_at_call 16
         go_must (
           (refine (left_calls w8 A5 A2 c5 c2 bl HR8.out ((HBL.out.below HB8.out).more HB8.out.size)).mono ?_)
           rintro e w9 ⟨rfl, hb9⟩
           have HB9 : Hid (Below W.heap.size W w9) := HB8.out.trans (hb9.mono HB8.out.size)
           clear hb9)))
    all_goals (
      (try simp only [Exit.inBlock, Exit.then])
      go_ret
      first
        | exact ⟨rfl, HB9.out⟩
        | exact ⟨by simp, HB9.out⟩
        | exact ⟨rfl, HB8.out⟩)
  · go_wp2_with (first
      | (go_at_call 16
         go_must (
           (refine (left_calls w8 A5 A2 c5 c2 bl HR8.out ((HBL.out.below HB8.out).more HB8.out.size)).mono ?_)
           rintro e w9 ⟨rfl, hb9⟩
           have HB9 : Hid (Below W.heap.size W w9) := HB8.out.trans (hb9.mono HB8.out.size)
           clear hb9)))
    all_goals (
      (try simp only [Exit.inBlock, Exit.then])
      go_ret
      first
        | exact ⟨rfl, HB8.out⟩
        | (exfalso; simp_all; exact hq (by assumption)))

set_option maxHeartbeats 8000000 in
set_option maxRecDepth 100000 in
theorem lawGF_rest (T : PT) (W : World) (fo cut : Int) (A Ab : Option Addr) (c cb : Nat) (sh : Bool) (bl : List Int) (hwf : T.wf) (h : TR W W.heap.size T A c) (hbl : Reads W W.heap.size 1 Ab bl.length (bs bl)) (hbc : bl.length ≤ cb) (hbm : cb ≤ maxLen)
    (ts : TypeId) (vs : Value) (hsh : W.cell? ⟨1, 0, none⟩ = some (.iface ts vs)) (hG : 1 < W.heap.size) (h2 : T.k ≠ 2) (h3 : T.k ≠ 3) (h4 : T.k ≠ 4) (h5 : T.k ≠ 5) (hc : ¬ 0 < cut) :
    Calls Tryd.prog 3 #[.agg #[.int .i64 T.k, .int .u64 T.u, .string T.s, .int .i64 T.x, .slice A T.n c, .int .u64 fo, .bool sh, .slice Ab bl.length cb, .int .i64 cut]] W fun e w' => e = .returned (.bool true) ∧ Below W.heap.size W w' := by
  have hp1 : Blk (W.alloc (.cells #[.int .i64 T.k, .int .u64 T.u, .string T.s, .int .i64 T.x, .slice A T.n c, .int .u64 fo, .bool sh, .slice Ab bl.length cb, .int .i64 cut] 28)) W.heap.size 28 [.int .i64 T.k, .int .u64 T.u, .string T.s, .int .i64 T.x, .slice A T.n c, .int .u64 fo, .bool sh, .slice Ab bl.length cb, .int .i64 cut] := Blk.new W _ [_, _, _, _, _, _, _, _, _]
  have hbel : Below W.heap.size W (W.alloc (.cells #[.int .i64 T.k, .int .u64 T.u, .string T.s, .int .i64 T.x, .slice A T.n c, .int .u64 fo, .bool sh, .slice Ab bl.length cb, .int .i64 cut] 28)) := (Below.refl _ W).alloc (Nat.le_refl _) _
  have d4 : (T.k == 4) = false := by simp; omega
  have e4 : decide (T.k = 4) = false := decide_eq_false (by omega)
  have d5 : (T.k == 5) = false := by simp; omega
  have e5 : decide (T.k = 5) = false := decide_eq_false (by omega)
  have HP1 := Lib.hid hp1
  have HBEL := Lib.hid hbel
  have HT := Lib.hid h
  have HBL := Lib.hid hbl
  have HWF := Lib.hid hwf
  have HSH := Lib.hid hsh
  have HG := Lib.hid hG
  have hbm2 : bl.length ≤ 9223372036854775807 := by simp only [maxLen] at hbm; omega
  clear hp1 hbel h hbl hwf hsh hG
  go_enter Tryd.func3, Tryd.ntmps3
  go_wp2_with (first
    | (go_at_call 9
       go_must (
         (refine (zzFits16_calls _ T.k T.u fo T.x cut T.s A Ab T.n c bl.length cb sh).mono ?_)
         rintro e w2 ⟨rfl, hb2⟩
         have hp2 := HP1.out.below hb2 HP1.out.lt
         have m0 := hp2.cell 0
         have m1 := hp2.cell 1
         have m2 := hp2.cell 2
         have m3 := hp2.cell 3
         have m4 := hp2.cell 4
         have m5 := hp2.cell 5
         have m6 := hp2.cell 6
         have m7 := hp2.cell 7
         have m8 := hp2.cell 8
         simp only [List.getElem?_cons_zero, List.getElem?_cons_succ] at m0 m1 m2 m3 m4 m5 m6 m7 m8
         have HP2 := Lib.hid hp2
         have HB2 : Hid (Below W.heap.size W w2) := HBEL.out.trans (hb2.mono HBEL.out.size)
         clear hp2 hb2))
    | (go_at_call 10
       first
       | (have HDD := HPV.out
          clear HDD
          go_must (
         (have hbt2 : b = true := by first | assumption | (have hx : (!b) = false := (by assumption); simpa using hx))
         obtain ⟨hfit, hl100, hA2, hm2, enc, hfp, hm, hmc, hcm, hr⟩ := HD.out hbt2
         subst hA2
         subst hm2
         subst hm
         refine (GF_rest w6 c1 A1 T enc bl hfp hfit HWF.out h2 h3 h4 h5 (((hr.alloc (Nat.le_refl _) _).more (by simp)).below HB46.out |>.more HB46.out.size) hmc hcm ts vs ?_).mono ?_
         · rw [HB6.out.cell (by show _ < _; exact HG.out)]; exact HSH.out
         rintro e w5 ⟨rfl, hb5⟩
         have HB5 : Hid (Below W.heap.size W w5) := HB6.out.trans (hb5.mono HB6.out.size)
         have hpw := HPV.out.below hb5 HPV.out.lt
         have v0 := hpw.cell 0
         have v1 := hpw.cell 1
         simp only [List.getElem?_cons_zero, List.getElem?_cons_succ] at v0 v1
         clear hpw hb5))
       |
       go_must (
         (refine (GF_awake w2).mono ?_)
         rintro e w3 ⟨x0, A0, c0, hx0, rfl, hr3, hb3⟩
         subst hx0
         have hba : Below W.heap.size W (w2.alloc (.cells #[.int .u8 203, .int .u8 0, .int .u8 0, .int .u8 0, .int .u8 0, .int .u8 0, .int .u8 0, .int .u8 0, .int .u8 7] 5)) := HB2.out.alloc HB2.out.size _
         have HB3 : Hid (Below W.heap.size W w3) := hba.trans (hb3.mono hba.size)
         have hp3 := (HP2.out.alloc (.cells #[.int .u8 203, .int .u8 0, .int .u8 0, .int .u8 0, .int .u8 0, .int .u8 0, .int .u8 0, .int .u8 0, .int .u8 7] 5)).below hb3 (HP2.out.alloc (.cells #[.int .u8 203, .int .u8 0, .int .u8 0, .int .u8 0, .int .u8 0, .int .u8 0, .int .u8 0, .int .u8 0, .int .u8 7] 5)).lt
         have j0 := hp3.cell 0
         have j1 := hp3.cell 1
         have j2 := hp3.cell 2
         have j3 := hp3.cell 3
         have j4 := hp3.cell 4
         have j5 := hp3.cell 5
         have j6 := hp3.cell 6
         have j7 := hp3.cell 7
         have j8 := hp3.cell 8
         simp only [List.getElem?_cons_zero, List.getElem?_cons_succ] at j0 j1 j2 j3 j4 j5 j6 j7 j8
         have HP3 := Lib.hid hp3
         clear hp3 hb3 hba hr3 m0 m1 m2 m3 m4 m5 m6 m7 m8))
    | (go_at_call 11
       go_must (
         (refine (data_calls T _ fo cut A Ab c cb sh bl (TR.more HB3.out.size _ _ _ (TR.below HB3.out _ _ _ HT.out)) ((HBL.out.below HB3.out).more HB3.out.size) hbc hbm).mono ?_)
         rintro e w4 hdat
         obtain ⟨A1, m1, c1, A2, m2, c2, b, rfl, hb4, hd⟩ := hdat.whole (by omega)
         have HB4 : Hid (Below W.heap.size W w4) := HB3.out.trans (hb4.mono HB3.out.size)
         have hp4 := HP3.out.below hb4 HP3.out.lt
         have k0 := hp4.cell 0
         have k1 := hp4.cell 1
         have k2 := hp4.cell 2
         have k3 := hp4.cell 3
         have k4 := hp4.cell 4
         have k5 := hp4.cell 5
         have k6 := hp4.cell 6
         have k7 := hp4.cell 7
         have k8 := hp4.cell 8
         simp only [List.getElem?_cons_zero, List.getElem?_cons_succ] at k0 k1 k2 k3 k4 k5 k6 k7 k8
         have HD := Lib.hid hd
         have HP4 := Lib.hid hp4
         clear hdat hd hb4 hp4 j0 j1 j2 j3 j4 j5 j6 j7 j8))
    | (go_at_call 12
       go_must (
         (refine (Integer_no _ T.k T.u T.x T.s A T.n c h2 h3).mono ?_)
         rintro e w6 ⟨rfl, hb6⟩
         have hpv := (Blk.new w4 25 [.int .i64 T.k, .int .u64 T.u, .string T.s, .int .i64 T.x, .slice A T.n c]).below hb6 (by simp)
         have hba6 : Below W.heap.size W (w4.alloc (.cells #[.int .i64 T.k, .int .u64 T.u, .string T.s, .int .i64 T.x, .slice A T.n c] 25)) := HB4.out.alloc HB4.out.size _
         have HB6 : Hid (Below W.heap.size W w6) := hba6.trans (hb6.mono hba6.size)
         have HPV := Lib.hid hpv
         have HB46 := Lib.hid hb6
         clear hb6 hpv hba6)))
  all_goals (
    (try simp only [Exit.inBlock, Exit.then])
    go_ret
    first
      | exact ⟨rfl, HB5.out⟩
      | exact ⟨rfl, HB6.out⟩
      | exact ⟨rfl, HB4.out.alloc HB4.out.size _⟩
      | exact ⟨rfl, HB4.out⟩
      | exact ⟨rfl, HB2.out⟩)
end Go.Proofs.YtlpnaifagiddlaaDoor
