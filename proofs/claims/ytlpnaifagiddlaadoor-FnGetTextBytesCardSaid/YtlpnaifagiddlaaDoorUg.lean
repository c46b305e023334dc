/- GetTextBytes at what PutPack writes; the walk of FnGetTextBytes. PRINTED by wip/genug.py. -/
import Derived.Test.YtlpnaifagiddlaaDoorQa
import Derived.Test.YtlpnaifagiddlaaDoorUf
namespace Go.Proofs.YtlpnaifagiddlaaDoor
open Go.RowKit
set_option linter.unusedVariables false

theorem str_nums (s : ByteArray) : strOfNums (numsS s) = s := by
  obtain ⟨⟨l⟩⟩ := s
  simp [strOfNums, numsS, List.map_map, Function.comp_def]
theorem FP_notext {T : PT} {enc : List Int} (hf : FP T enc) (h0 : 0 ≤ T.k) (h10 : T.k ≤ 10) (hu : 0 ≤ T.u) (hb : T.k = 1 → T.u ≤ 1) (h6 : T.k ≠ 6) : ∃ b r, enc = b :: r ∧ 0 ≤ b ∧ b < 256 ∧ (b < 160 ∨ 192 ≤ b) ∧ (b < 217 ∨ 219 < b) := by
  obtain ⟨⟨a0, a1, a2, a3, a4, a5, a6, a7⟩, hx1, hx2⟩ := hf
  clear hx1 hx2 a6
  have hi : ∀ n : Int, IntF n enc → ∃ b r, enc = b :: r ∧ 0 ≤ b ∧ b < 256 ∧ (b < 160 ∨ 192 ≤ b) ∧ (b < 217 ∨ 219 < b) := by
    intro n hn
    rcases hn with ⟨a, b, rfl⟩ | ⟨a, b, rfl⟩ | ⟨p, hp, hok, a, rfl⟩ | ⟨p, hp, a, b, rfl⟩
    · exact ⟨_, _, rfl, by omega, by omega, by omega, by omega⟩
    · exact ⟨_, _, rfl, by omega, by omega, by omega, by omega⟩
    · simp only [List.mem_cons, List.not_mem_nil, or_false] at hp
      rcases hp with rfl | rfl | rfl | rfl <;> exact ⟨_, _, rfl, by decide, by decide, by decide, by decide⟩
    · simp only [List.mem_cons, List.not_mem_nil, or_false] at hp
      rcases hp with rfl | rfl | rfl | rfl <;> exact ⟨_, _, rfl, by decide, by decide, by decide, by decide⟩
  by_cases c2 : T.k = 2
  · exact hi _ (a2 c2)
  by_cases c3 : T.k = 3
  · exact hi _ (a3 c3)
  clear a2 a3 hi
  generalize T.k = K at *
  generalize T.u = U at *
  by_cases c0 : K = 0
  · exact ⟨_, _, a0 c0, by omega, by omega, by omega, by omega⟩
  by_cases c1 : K = 1
  · have := hb c1
    exact ⟨_, _, a1 c1, by omega, by omega, by omega, by omega⟩
  by_cases c4 : K = 4
  · exact ⟨_, _, a4 c4, by omega, by omega, by omega, by omega⟩
  by_cases c5 : K = 5
  · exact ⟨_, _, a5 c5, by omega, by omega, by omega, by omega⟩
  obtain ⟨b, r, rfl, o7, o8, o9, o10⟩ := a7 (by omega)
  clear a0 a1 a4 a5 a7
  refine ⟨b, r, rfl, ?_⟩
  have : K = 7 ∨ K = 8 ∨ K = 9 ∨ K = 10 := by omega
  rcases this with e | e | e | e
  · have := o7 e; omega
  · have := o8 e; omega
  · have := o9 e; omega
  · have := o10 e; omega
theorem GT_other (W : World) (c : Nat) (A : Option Addr) (b : Int) (r : List Int) (m : Nat) (hm : m ≤ (b :: r).length) (h0 : 0 ≤ b) (h1 : b < 256) (h2 : b < 160 ∨ 192 ≤ b) (h3 : b < 217 ∨ 219 < b) (h : Reads W W.heap.size 1 A m (bs ((b :: r).take m))) (hmc : m ≤ c) (hcm : c ≤ maxLen) (ts : TypeId) (vs : Value) (hsh : W.cell? ⟨1, 0, none⟩ = some (.iface ts vs)) :
    Calls Tryd.prog 17 #[.slice A m c] W (GTE W) := by
  by_cases h5 : m = 0
  · subst h5
    exact GT_no W 0 c A (SA_no W 0 c A (ZC_none W c A ts vs hsh))
  obtain ⟨k, rfl⟩ : ∃ k, m = k + 1 := ⟨m - 1, by omega⟩
  obtain ⟨ad, rfl, _, _⟩ := h.2 (by omega)
  have hk : (r.take k).length = k := by simp only [List.length_cons, List.length_take] at hm ⊢; omega
  have h' : Reads W W.heap.size 1 (some ad) (k + 1) (bs ([b] ++ r.take k)) := by simpa only [List.cons_append, List.nil_append, List.take_succ_cons] using h
  obtain ⟨tot, htot⟩ : ∃ tot, tot = r.take k := ⟨_, rfl⟩
  rw [← htot] at h' hk
  subst hk
  exact GT_no W _ c _ (SA_no W _ c _ (ZC_other W _ c ad b tot h' hmc hcm (Nat.le_refl _) h0 h1 h2 h3))
theorem GT_unfit (W : World) (c : Nat) (A : Option Addr) (T : PT) (enc tot : List Int) (hf : FP T enc) (hfit : Fits T 6) (hwf : T.wf) (h6 : T.k ≠ 6) (h : Reads W W.heap.size 1 A (enc ++ tot).length (bs (enc ++ tot))) (hmc : (enc ++ tot).length ≤ c) (hcm : c ≤ maxLen) (ts : TypeId) (vs : Value) (hsh : W.cell? ⟨1, 0, none⟩ = some (.iface ts vs)) :
    Calls Tryd.prog 17 #[.slice A (enc ++ tot).length c] W (GTE W) := by
  obtain ⟨_, _, hu0, hu1, _⟩ := hwf
  have hok : T.ok 6 := by cases T with | nil => exact hfit.elim | mk => exact hfit.1
  obtain ⟨_, k0, k10, _, _, _, _, _, _, k1, _⟩ := hok
  obtain ⟨b, r, rfl, b0, b1, b2, b3⟩ := FP_notext hf k0 k10 hu0 k1 h6
  refine GT_other W c A b (r ++ tot) _ (Nat.le_refl _) b0 b1 b2 b3 ?_ hmc hcm ts vs hsh
  rw [show (b :: (r ++ tot)).take (b :: r ++ tot).length = b :: r ++ tot from List.take_of_length_le (Nat.le_refl _)]
  exact h
theorem GT_fit (W : World) (c : Nat) (A : Option Addr) (T : PT) (enc tot : List Int) (hf : FP T enc) (hfit : Fits T 6) (h6 : T.k = 6) (ht : tot.length ≤ 100) (h : Reads W W.heap.size 1 A (enc ++ tot).length (bs (enc ++ tot))) (hmc : (enc ++ tot).length ≤ c) (hcm : c ≤ maxLen) :
    Calls Tryd.prog 17 #[.slice A (enc ++ tot).length c] W (GTB (numsS T.s) tot W) := by
  have hok : T.ok 6 := by cases T with | nil => exact hfit.elim | mk => exact hfit.1
  have hsz : T.s.size ≤ 131072 := hok.2.2.2.2.2.2.2.2.2.2.2.2.2
  obtain ⟨hd, hh, rfl⟩ := hf.1.2.2.2.2.2.2.1 h6
  obtain ⟨body, hbody⟩ : ∃ body, body = numsS T.s := ⟨_, rfl⟩
  have hbl : T.s.size = body.length := by rw [hbody, numsS_length]
  rw [← hbody] at h hmc ⊢
  rw [hbl] at hh hsz
  clear hbody hbl
  rw [List.append_assoc] at h hmc ⊢
  have e1 : (2 : Int) ^ (8 * 1) = 256 := by decide
  have e2 : (2 : Int) ^ (8 * 2) = 65536 := by decide
  refine GT_ok W _ c A body tot (by omega) ht (SA_ok W _ c A body tot W.heap.size (Nat.le_refl _) (by omega) ?_)
  rcases hh with ⟨_, hlt, rfl⟩ | ⟨p, hp, hok2, rfl⟩
  · obtain ⟨ad, rfl, _, _⟩ := h.2 (by simp)
    rw [lenQ _ (body ++ tot) 1 rfl] at h hmc ⊢
    exact ZC_fix W _ c body.length ad (body ++ tot) h hmc hcm (Nat.le_refl _) (by omega) body tot rfl rfl
  · simp only [List.mem_cons, List.not_mem_nil, or_false] at hp
    rcases hp with rfl | rfl | rfl
    · simp only [okF, e1, Bool.or_eq_true, decide_eq_true_eq] at hok2
      simp only [be1Q] at h hmc ⊢
      have e : (body.length : Int) % 256 = body.length := by omega
      rw [e] at h hmc ⊢
      obtain ⟨ad, rfl, _, _⟩ := h.2 (by simp)
      rw [lenQ _ (body ++ tot) 2 rfl] at h hmc ⊢
      exact ZC_one W _ c body.length ad (body ++ tot) h hmc hcm (Nat.le_refl _) (by omega) body tot rfl rfl
    · simp only [okF, e2, Bool.or_eq_true, decide_eq_true_eq] at hok2
      simp only [be2Q] at h hmc ⊢
      obtain ⟨ad, rfl, _, _⟩ := h.2 (by simp)
      rw [lenQ _ (body ++ tot) 3 rfl] at h hmc ⊢
      exact ZC_two W _ c body.length ad (body ++ tot) h hmc hcm (Nat.le_refl _) (by omega) body tot rfl rfl
    · simp only [be4Q] at h hmc ⊢
      obtain ⟨ad, rfl, _, _⟩ := h.2 (by simp)
      rw [lenQ _ (body ++ tot) 5 rfl] at h hmc ⊢
      exact ZC_four W _ c body.length ad (body ++ tot) h hmc hcm (Nat.le_refl _) (by omega) body tot rfl rfl
theorem GT_cut (W : World) (c : Nat) (A : Option Addr) (T : PT) (enc : List Int) (hf : FP T enc) (hfit : Fits T 6) (hwf : T.wf) (m : Nat) (hm : m < enc.length) (h : Reads W W.heap.size 1 A m (bs (enc.take m))) (hmc : m ≤ c) (hcm : c ≤ maxLen) (ts : TypeId) (vs : Value) (hsh : W.cell? ⟨1, 0, none⟩ = some (.iface ts vs)) :
    Calls Tryd.prog 17 #[.slice A m c] W (GTE W) := by
  have hok : T.ok 6 := by cases T with | nil => exact hfit.elim | mk => exact hfit.1
  by_cases h6 : T.k = 6
  · have hsz : T.s.size ≤ 131072 := hok.2.2.2.2.2.2.2.2.2.2.2.2.2
    refine GT_no W _ c A (SA_no W _ c A ?_)
    by_cases h5 : m = 0
    · subst h5
      exact ZC_none W c A ts vs hsh
    obtain ⟨k, rfl⟩ : ∃ k, m = k + 1 := ⟨m - 1, by omega⟩
    obtain ⟨hd, hh, rfl⟩ := hf.1.2.2.2.2.2.2.1 h6
    obtain ⟨body, hbody⟩ : ∃ body, body = numsS T.s := ⟨_, rfl⟩
    have hbl : T.s.size = body.length := by rw [hbody, numsS_length]
    rw [← hbody] at h hm
    rw [hbl] at hh hsz
    clear hbody hbl
    obtain ⟨ad, rfl, _, _⟩ := h.2 (by omega)
    rcases hh with ⟨_, hlt, rfl⟩ | ⟨p, hp, hok2, rfl⟩
    · simp only [List.cons_append, List.nil_append, List.length_cons] at hm
      have h' : Reads W W.heap.size 1 (some ad) (k + 1) (bs ([160 + (body.length : Int)] ++ body.take k)) := by simpa only [List.cons_append, List.nil_append, List.take_succ_cons] using h
      have hk : (body.take k).length = k := by rw [List.length_take]; omega
      obtain ⟨tot, htot⟩ : ∃ tot, tot = body.take k := ⟨_, rfl⟩
      rw [← htot] at h' hk
      subst hk
      exact ZC_fix_cut W _ c body.length ad tot h' hmc hcm (Nat.le_refl _) (by omega) (by omega) ts vs hsh
    · simp only [List.mem_cons, List.not_mem_nil, or_false] at hp
      have e1 : (2 : Int) ^ (8 * 1) = 256 := by decide
      have e2 : (2 : Int) ^ (8 * 2) = 65536 := by decide
      rcases hp with rfl | rfl | rfl
      · simp only [okF, e1, Bool.or_eq_true, decide_eq_true_eq] at hok2
        by_cases hs : k < 1
        · have hk : ((be (body.length : Int) 1 ++ body).take k).length = k := by rw [List.length_take, List.length_append, be_length]; omega
          have h' : Reads W W.heap.size 1 (some ad) (k + 1) (bs ([217] ++ (be (body.length : Int) 1 ++ body).take k)) := by simpa only [List.cons_append, List.nil_append, List.take_succ_cons] using h
          obtain ⟨tot, htot⟩ : ∃ tot, tot = (be (body.length : Int) 1 ++ body).take k := ⟨_, rfl⟩
          rw [← htot] at h' hk
          subst hk
          exact ZC_s217 W _ c ad tot h' hmc hcm (Nat.le_refl _) hs ts vs hsh
        · obtain ⟨j, rfl⟩ : ∃ j, k = j + 1 := ⟨k - 1, by omega⟩
          simp only [List.cons_append, List.length_cons, List.length_append, be_length] at hm
          have hk : (body.take j).length = j := by rw [List.length_take]; omega
          simp only [be1Q, List.cons_append, List.nil_append, List.take_succ_cons] at h
          have e : (body.length : Int) % 256 = body.length := by omega
          rw [e] at h
          obtain ⟨tot, htot⟩ : ∃ tot, tot = body.take j := ⟨_, rfl⟩
          rw [← htot] at h hk
          subst hk
          exact ZC_one_cut W _ c body.length ad tot h hmc hcm (Nat.le_refl _) (by omega) (by omega) ts vs hsh
      · simp only [okF, e2, Bool.or_eq_true, decide_eq_true_eq] at hok2
        by_cases hs : k < 2
        · have hk : ((be (body.length : Int) 2 ++ body).take k).length = k := by rw [List.length_take, List.length_append, be_length]; omega
          have h' : Reads W W.heap.size 1 (some ad) (k + 1) (bs ([218] ++ (be (body.length : Int) 2 ++ body).take k)) := by simpa only [List.cons_append, List.nil_append, List.take_succ_cons] using h
          obtain ⟨tot, htot⟩ : ∃ tot, tot = (be (body.length : Int) 2 ++ body).take k := ⟨_, rfl⟩
          rw [← htot] at h' hk
          subst hk
          exact ZC_s218 W _ c ad tot h' hmc hcm (Nat.le_refl _) hs ts vs hsh
        · obtain ⟨j, rfl⟩ : ∃ j, k = j + 2 := ⟨k - 2, by omega⟩
          simp only [List.cons_append, List.length_cons, List.length_append, be_length] at hm
          have hk : (body.take j).length = j := by rw [List.length_take]; omega
          simp only [be2Q, List.cons_append, List.nil_append, List.take_succ_cons] at h
          obtain ⟨tot, htot⟩ : ∃ tot, tot = body.take j := ⟨_, rfl⟩
          rw [← htot] at h hk
          subst hk
          exact ZC_two_cut W _ c body.length ad tot h hmc hcm (Nat.le_refl _) (by omega) (by omega) ts vs hsh
      · by_cases hs : k < 4
        · have hk : ((be (body.length : Int) 4 ++ body).take k).length = k := by rw [List.length_take, List.length_append, be_length]; omega
          have h' : Reads W W.heap.size 1 (some ad) (k + 1) (bs ([219] ++ (be (body.length : Int) 4 ++ body).take k)) := by simpa only [List.cons_append, List.nil_append, List.take_succ_cons] using h
          obtain ⟨tot, htot⟩ : ∃ tot, tot = (be (body.length : Int) 4 ++ body).take k := ⟨_, rfl⟩
          rw [← htot] at h' hk
          subst hk
          exact ZC_s219 W _ c ad tot h' hmc hcm (Nat.le_refl _) hs ts vs hsh
        · obtain ⟨j, rfl⟩ : ∃ j, k = j + 4 := ⟨k - 4, by omega⟩
          simp only [List.cons_append, List.length_cons, List.length_append, be_length] at hm
          have hk : (body.take j).length = j := by rw [List.length_take]; omega
          simp only [be4Q, List.cons_append, List.nil_append, List.take_succ_cons] at h
          obtain ⟨tot, htot⟩ : ∃ tot, tot = body.take j := ⟨_, rfl⟩
          rw [← htot] at h hk
          subst hk
          exact ZC_four_cut W _ c body.length ad tot h hmc hcm (Nat.le_refl _) (by omega) (by omega) ts vs hsh
  · obtain ⟨_, _, hu0, hu1, _⟩ := hwf
    obtain ⟨_, k0, k10, _, _, _, _, _, _, k1, _⟩ := hok
    obtain ⟨b, r, rfl, b0, b1, b2, b3⟩ := FP_notext hf k0 k10 hu0 k1 h6
    exact GT_other W c A b r m (by omega) b0 b1 b2 b3 h hmc hcm ts vs hsh
theorem GT_awake (W : World) : Calls Tryd.prog 17 #[.slice (some ⟨W.heap.size, 0, none⟩) 2 2] (W.alloc (.cells #[.int .u8 161, .int .u8 97] 5)) (GTB [97] [] (W.alloc (.cells #[.int .u8 161, .int .u8 97] 5))) := by
  have hb := Blk.new W 5 [.int .u8 161, .int .u8 97]
  have hr : Reads (W.alloc (.cells #[.int .u8 161, .int .u8 97] 5)) (W.alloc (.cells #[.int .u8 161, .int .u8 97] 5)).heap.size 1 (some ⟨W.heap.size, 0, none⟩) 2 (bs ([161] ++ [97])) := (hb.reads 0 2 (by simp)).more (show W.heap.size + 1 ≤ _ from hb.lt)
  exact GT_ok _ 2 2 _ [97] [] (by simp) (by simp) (SA_ok _ 2 2 _ [97] [] _ (Nat.le_refl _) (by simp) (ZC_fix _ _ 2 1 _ [97] hr (by simp) (by simp [maxLen]) (Nat.le_refl _) (by omega) [97] [] rfl rfl))

set_option maxHeartbeats 8000000 in
set_option maxRecDepth 100000 in
theorem lawGT_cut (T : PT) (W : World) (fo cut : Int) (A Ab : Option Addr) (c cb : Nat) (sh : Bool) (bl : List Int) (hwf : T.wf) (h : TR W W.heap.size T A c) (hbl : Reads W W.heap.size 1 Ab bl.length (bs bl)) (hbc : bl.length ≤ cb) (hbm : cb ≤ maxLen)
    (ts : TypeId) (vs : Value) (hsh : W.cell? ⟨1, 0, none⟩ = some (.iface ts vs)) (hG : 1 < W.heap.size) (hc : 0 < cut) :
    Calls Tryd.prog 4 #[.agg #[.int .i64 T.k, .int .u64 T.u, .string T.s, .int .i64 T.x, .slice A T.n c, .int .u64 fo, .bool sh, .slice Ab bl.length cb, .int .i64 cut]] W fun e w' => e = .returned (.bool true) ∧ Below W.heap.size W w' := by
  have hp1 : Blk (W.alloc (.cells #[.int .i64 T.k, .int .u64 T.u, .string T.s, .int .i64 T.x, .slice A T.n c, .int .u64 fo, .bool sh, .slice Ab bl.length cb, .int .i64 cut] 28)) W.heap.size 28 [.int .i64 T.k, .int .u64 T.u, .string T.s, .int .i64 T.x, .slice A T.n c, .int .u64 fo, .bool sh, .slice Ab bl.length cb, .int .i64 cut] := Blk.new W _ [_, _, _, _, _, _, _, _, _]
  have hbel : Below W.heap.size W (W.alloc (.cells #[.int .i64 T.k, .int .u64 T.u, .string T.s, .int .i64 T.x, .slice A T.n c, .int .u64 fo, .bool sh, .slice Ab bl.length cb, .int .i64 cut] 28)) := (Below.refl _ W).alloc (Nat.le_refl _) _
  have HP1 := Lib.hid hp1
  have HBEL := Lib.hid hbel
  have HT := Lib.hid h
  have HBL := Lib.hid hbl
  have HWF := Lib.hid hwf
  have HSH := Lib.hid hsh
  have HG := Lib.hid hG
  have hbm2 : bl.length ≤ 9223372036854775807 := by simp only [maxLen] at hbm; omega
  clear hp1 hbel h hbl hwf hsh hG
  go_enter Tryd.func4, Tryd.ntmps4
  go_wp2_with (first
    | (go_at_call 9
       go_must (
         (refine (zzFits16_calls _ T.k T.u fo T.x cut T.s A Ab T.n c bl.length cb sh).mono ?_)
         rintro e w2 ⟨rfl, hb2⟩
         have hp2 := HP1.out.below hb2 HP1.out.lt
         have m0 := hp2.cell 0
         have m1 := hp2.cell 1
         have m2 := hp2.cell 2
         have m3 := hp2.cell 3
         have m4 := hp2.cell 4
         have m5 := hp2.cell 5
         have m6 := hp2.cell 6
         have m7 := hp2.cell 7
         have m8 := hp2.cell 8
         simp only [List.getElem?_cons_zero, List.getElem?_cons_succ] at m0 m1 m2 m3 m4 m5 m6 m7 m8
         have HP2 := Lib.hid hp2
         have HB2 : Hid (Below W.heap.size W w2) := HBEL.out.trans (hb2.mono HBEL.out.size)
         clear hp2 hb2))
    | (go_at_call 17
       first
       | (have HDD := HD.out
          clear HDD
          go_must (
         (have hbt : b = true := by first | assumption | (have hx : (!b) = false := (by assumption); simpa using hx))
         obtain ⟨hfit, hl100, enc, hfp, hm, hmc, hcm, hr⟩ := HD.out hbt
         refine (GT_cut w4 c1 A1 T enc hfp hfit HWF.out m1 hm hr hmc hcm ts vs ?_).mono ?_
         · rw [HB4.out.cell (by show _ < _; exact HG.out)]; exact HSH.out
         rintro e w5 ⟨rfl, hb5⟩
         have HB5 : Hid (Below W.heap.size W w5) := HB4.out.trans (hb5.mono HB4.out.size)
         have hp5 := HP4.out.below hb5 HP4.out.lt
         have l0 := hp5.cell 0
         have l1 := hp5.cell 1
         have l2 := hp5.cell 2
         have l3 := hp5.cell 3
         have l4 := hp5.cell 4
         have l5 := hp5.cell 5
         have l6 := hp5.cell 6
         have l7 := hp5.cell 7
         have l8 := hp5.cell 8
         simp only [List.getElem?_cons_zero, List.getElem?_cons_succ] at l0 l1 l2 l3 l4 l5 l6 l7 l8
         have HP5 := Lib.hid hp5
         clear hb5 hp5 k0 k1 k2 k3 k4 k5 k6 k7 k8))
       | go_must (
         (refine (GT_awake w2).mono ?_)
         rintro e w3 ⟨A0, c0, A0b, c0b, rfl, hr3, hr3b, hb3⟩
         have hc3 : (convert 26 9 (.slice A0 1 c0)).run Tryd.prog w3 = .ok (.string ⟨#[97]⟩) w3 := conv_reads (P := Tryd.prog) (c := c0) hr3 _ _ _ Tryd.underlying26 Tryd.underlying5 Tryd.underlying9
         have hba : Below W.heap.size W (w2.alloc (.cells #[.int .u8 161, .int .u8 97] 5)) := HB2.out.alloc HB2.out.size _
         have HB3 : Hid (Below W.heap.size W w3) := hba.trans (hb3.mono hba.size)
         have hp3 := (HP2.out.alloc (.cells #[.int .u8 161, .int .u8 97] 5)).below hb3 (HP2.out.alloc (.cells #[.int .u8 161, .int .u8 97] 5)).lt
         have j0 := hp3.cell 0
         have j1 := hp3.cell 1
         have j2 := hp3.cell 2
         have j3 := hp3.cell 3
         have j4 := hp3.cell 4
         have j5 := hp3.cell 5
         have j6 := hp3.cell 6
         have j7 := hp3.cell 7
         have j8 := hp3.cell 8
         simp only [List.getElem?_cons_zero, List.getElem?_cons_succ] at j0 j1 j2 j3 j4 j5 j6 j7 j8
         have HP3 := Lib.hid hp3
         clear hp3 hb3 hba hr3 hr3b m0 m1 m2 m3 m4 m5 m6 m7 m8))
    | (go_at_call 11
       go_must (
         (refine (data_calls T _ fo cut A Ab c cb sh bl (TR.more HB3.out.size _ _ _ (TR.below HB3.out _ _ _ HT.out)) ((HBL.out.below HB3.out).more HB3.out.size) hbc hbm).mono ?_)
         rintro e w4 hdat
         obtain ⟨A1, m1, c1, b, rfl, hb4, hd⟩ := hdat.cut hc
         have HB4 : Hid (Below W.heap.size W w4) := HB3.out.trans (hb4.mono HB3.out.size)
         have hp4 := HP3.out.below hb4 HP3.out.lt
         have k0 := hp4.cell 0
         have k1 := hp4.cell 1
         have k2 := hp4.cell 2
         have k3 := hp4.cell 3
         have k4 := hp4.cell 4
         have k5 := hp4.cell 5
         have k6 := hp4.cell 6
         have k7 := hp4.cell 7
         have k8 := hp4.cell 8
         simp only [List.getElem?_cons_zero, List.getElem?_cons_succ] at k0 k1 k2 k3 k4 k5 k6 k7 k8
         have HD := Lib.hid hd
         have HP4 := Lib.hid hp4
         clear hdat hd hb4 hp4 j0 j1 j2 j3 j4 j5 j6 j7 j8)))
  all_goals (
    (try simp only [Exit.inBlock, Exit.then])
    go_ret
    first
      | exact ⟨rfl, HB9.out⟩
      | exact ⟨rfl, HB5.out.alloc HB5.out.size _⟩
      | exact ⟨rfl, HB5.out⟩
      | exact ⟨rfl, HB4.out⟩
      | exact ⟨rfl, HB2.out⟩)

set_option maxHeartbeats 8000000 in
set_option maxRecDepth 100000 in
theorem lawGT_fit (T : PT) (W : World) (fo cut : Int) (A Ab : Option Addr) (c cb : Nat) (sh : Bool) (bl : List Int) (hwf : T.wf) (h : TR W W.heap.size T A c) (hbl : Reads W W.heap.size 1 Ab bl.length (bs bl)) (hbc : bl.length ≤ cb) (hbm : cb ≤ maxLen)
    (ts : TypeId) (vs : Value) (hsh : W.cell? ⟨1, 0, none⟩ = some (.iface ts vs)) (hG : 1 < W.heap.size) (hc : ¬ 0 < cut) (hF : T.k = 6) :
    Calls Tryd.prog 4 #[.agg #[.int .i64 T.k, .int .u64 T.u, .string T.s, .int .i64 T.x, .slice A T.n c, .int .u64 fo, .bool sh, .slice Ab bl.length cb, .int .i64 cut]] W fun e w' => e = .returned (.bool true) ∧ Below W.heap.size W w' := by
  have hp1 : Blk (W.alloc (.cells #[.int .i64 T.k, .int .u64 T.u, .string T.s, .int .i64 T.x, .slice A T.n c, .int .u64 fo, .bool sh, .slice Ab bl.length cb, .int .i64 cut] 28)) W.heap.size 28 [.int .i64 T.k, .int .u64 T.u, .string T.s, .int .i64 T.x, .slice A T.n c, .int .u64 fo, .bool sh, .slice Ab bl.length cb, .int .i64 cut] := Blk.new W _ [_, _, _, _, _, _, _, _, _]
  have hbel : Below W.heap.size W (W.alloc (.cells #[.int .i64 T.k, .int .u64 T.u, .string T.s, .int .i64 T.x, .slice A T.n c, .int .u64 fo, .bool sh, .slice Ab bl.length cb, .int .i64 cut] 28)) := (Below.refl _ W).alloc (Nat.le_refl _) _
  have d6 : (T.k == 6) = true := by simp [hF]
  have HF := Lib.hid hF
  clear hF
  have HP1 := Lib.hid hp1
  have HBEL := Lib.hid hbel
  have HT := Lib.hid h
  have HBL := Lib.hid hbl
  have HWF := Lib.hid hwf
  have HSH := Lib.hid hsh
  have HG := Lib.hid hG
  have hbm2 : bl.length ≤ 9223372036854775807 := by simp only [maxLen] at hbm; omega
  clear hp1 hbel h hbl hwf hsh hG
  go_enter Tryd.func4, Tryd.ntmps4
  go_wp2_with (first
    | (go_at_call 9
       go_must (
         (refine (zzFits16_calls _ T.k T.u fo T.x cut T.s A Ab T.n c bl.length cb sh).mono ?_)
         rintro e w2 ⟨rfl, hb2⟩
         have hp2 := HP1.out.below hb2 HP1.out.lt
         have m0 := hp2.cell 0
         have m1 := hp2.cell 1
         have m2 := hp2.cell 2
         have m3 := hp2.cell 3
         have m4 := hp2.cell 4
         have m5 := hp2.cell 5
         have m6 := hp2.cell 6
         have m7 := hp2.cell 7
         have m8 := hp2.cell 8
         simp only [List.getElem?_cons_zero, List.getElem?_cons_succ] at m0 m1 m2 m3 m4 m5 m6 m7 m8
         have HP2 := Lib.hid hp2
         have HB2 : Hid (Below W.heap.size W w2) := HBEL.out.trans (hb2.mono HBEL.out.size)
         clear hp2 hb2))
    | (go_at_call 17
       first
       | (have HDD := HD.out
          clear HDD
          go_must (
         (have hbt : b = true := by first | assumption | (have hx : (!b) = false := (by assumption); simpa using hx))
         obtain ⟨hfit, hl100, hA2, hm2, enc, hfp, hm, hmc, hcm, hr⟩ := HD.out hbt
         subst hA2
         subst hm2
         subst hm
         refine (GT_fit w4 c1 A1 T enc bl hfp hfit HF.out hl100 hr hmc hcm).mono ?_
         rintro e w5 ⟨A5, c5, A6, c6, rfl, hr5, hr6, hb5⟩
         have hcv : ∀ o, (convert 26 9 (.slice A5 (numsS T.s).length c5)).run Tryd.prog (w5.alloc o) = .ok (.string T.s) (w5.alloc o) := fun o => by
           have := conv_reads (P := Tryd.prog) (c := c5) (hr5.alloc (Nat.le_refl _) o) _ _ _ Tryd.underlying26 Tryd.underlying5 Tryd.underlying9
           rwa [str_nums] at this
         have HR6 := Lib.hid hr6
         clear hr5 hr6
         have HB5 : Hid (Below W.heap.size W w5) := HB4.out.trans (hb5.mono HB4.out.size)
         have hp5 := HP4.out.below hb5 HP4.out.lt
         have l0 := hp5.cell 0
         have l1 := hp5.cell 1
         have l2 := hp5.cell 2
         have l3 := hp5.cell 3
         have l4 := hp5.cell 4
         have l5 := hp5.cell 5
         have l6 := hp5.cell 6
         have l7 := hp5.cell 7
         have l8 := hp5.cell 8
         simp only [List.getElem?_cons_zero, List.getElem?_cons_succ] at l0 l1 l2 l3 l4 l5 l6 l7 l8
         have HP5 := Lib.hid hp5
         clear hb5 hp5 k0 k1 k2 k3 k4 k5 k6 k7 k8))
       | go_must (
         (refine (GT_awake w2).mono ?_)
         rintro e w3 ⟨A0, c0, A0b, c0b, rfl, hr3, hr3b, hb3⟩
         have hc3 : (convert 26 9 (.slice A0 1 c0)).run Tryd.prog w3 = .ok (.string ⟨#[97]⟩) w3 := conv_reads (P := Tryd.prog) (c := c0) hr3 _ _ _ Tryd.underlying26 Tryd.underlying5 Tryd.underlying9
         have hba : Below W.heap.size W (w2.alloc (.cells #[.int .u8 161, .int .u8 97] 5)) := HB2.out.alloc HB2.out.size _
         have HB3 : Hid (Below W.heap.size W w3) := hba.trans (hb3.mono hba.size)
         have hp3 := (HP2.out.alloc (.cells #[.int .u8 161, .int .u8 97] 5)).below hb3 (HP2.out.alloc (.cells #[.int .u8 161, .int .u8 97] 5)).lt
         have j0 := hp3.cell 0
         have j1 := hp3.cell 1
         have j2 := hp3.cell 2
         have j3 := hp3.cell 3
         have j4 := hp3.cell 4
         have j5 := hp3.cell 5
         have j6 := hp3.cell 6
         have j7 := hp3.cell 7
         have j8 := hp3.cell 8
         simp only [List.getElem?_cons_zero, List.getElem?_cons_succ] at j0 j1 j2 j3 j4 j5 j6 j7 j8
         have HP3 := Lib.hid hp3
         clear hp3 hb3 hba hr3 hr3b m0 m1 m2 m3 m4 m5 m6 m7 m8))
    | (go_at_call 11
       go_must (
         (refine (data_calls T _ fo cut A Ab c cb sh bl (TR.more HB3.out.size _ _ _ (TR.below HB3.out _ _ _ HT.out)) ((HBL.out.below HB3.out).more HB3.out.size) hbc hbm).mono ?_)
         rintro e w4 hdat
         obtain ⟨A1, m1, c1, A2, m2, c2, b, rfl, hb4, hd⟩ := hdat.whole (by omega)
         have HB4 : Hid (Below W.heap.size W w4) := HB3.out.trans (hb4.mono HB3.out.size)
         have hp4 := HP3.out.below hb4 HP3.out.lt
         have k0 := hp4.cell 0
         have k1 := hp4.cell 1
         have k2 := hp4.cell 2
         have k3 := hp4.cell 3
         have k4 := hp4.cell 4
         have k5 := hp4.cell 5
         have k6 := hp4.cell 6
         have k7 := hp4.cell 7
         have k8 := hp4.cell 8
         simp only [List.getElem?_cons_zero, List.getElem?_cons_succ] at k0 k1 k2 k3 k4 k5 k6 k7 k8
         have HD := Lib.hid hd
         have HP4 := Lib.hid hp4
         clear hdat hd hb4 hp4 j0 j1 j2 j3 j4 j5 j6 j7 j8))
    | (go_at_call 16
       go_must (
         (refine (left_calls (w5.alloc _) A6 A2 c6 c2 bl ((HR6.out.alloc (Nat.le_refl _) _).more (by simp)) ((HBL.out.below (HB5.out.alloc HB5.out.size _)).more (HB5.out.alloc HB5.out.size _).size)).mono ?_)
         rintro e w9 ⟨rfl, hb9⟩
         have HB9 : Hid (Below W.heap.size W w9) := (HB5.out.alloc HB5.out.size _).trans (hb9.mono (HB5.out.alloc HB5.out.size _).size)
         clear hb9)))
  all_goals (
    (try simp only [Exit.inBlock, Exit.then])
    go_ret
    first
      | exact ⟨rfl, HB9.out⟩
      | exact ⟨rfl, HB5.out.alloc HB5.out.size _⟩
      | exact ⟨rfl, HB5.out⟩
      | exact ⟨rfl, HB4.out⟩
      | exact ⟨rfl, HB2.out⟩)

set_option maxHeartbeats 8000000 in
set_option maxRecDepth 100000 in
theorem lawGT_unfit (T : PT) (W : World) (fo cut : Int) (A Ab : Option Addr) (c cb : Nat) (sh : Bool) (bl : List Int) (hwf : T.wf) (h : TR W W.heap.size T A c) (hbl : Reads W W.heap.size 1 Ab bl.length (bs bl)) (hbc : bl.length ≤ cb) (hbm : cb ≤ maxLen)
    (ts : TypeId) (vs : Value) (hsh : W.cell? ⟨1, 0, none⟩ = some (.iface ts vs)) (hG : 1 < W.heap.size) (hc : ¬ 0 < cut) (hF : T.k ≠ 6) :
    Calls Tryd.prog 4 #[.agg #[.int .i64 T.k, .int .u64 T.u, .string T.s, .int .i64 T.x, .slice A T.n c, .int .u64 fo, .bool sh, .slice Ab bl.length cb, .int .i64 cut]] W fun e w' => e = .returned (.bool true) ∧ Below W.heap.size W w' := by
  have hp1 : Blk (W.alloc (.cells #[.int .i64 T.k, .int .u64 T.u, .string T.s, .int .i64 T.x, .slice A T.n c, .int .u64 fo, .bool sh, .slice Ab bl.length cb, .int .i64 cut] 28)) W.heap.size 28 [.int .i64 T.k, .int .u64 T.u, .string T.s, .int .i64 T.x, .slice A T.n c, .int .u64 fo, .bool sh, .slice Ab bl.length cb, .int .i64 cut] := Blk.new W _ [_, _, _, _, _, _, _, _, _]
  have hbel : Below W.heap.size W (W.alloc (.cells #[.int .i64 T.k, .int .u64 T.u, .string T.s, .int .i64 T.x, .slice A T.n c, .int .u64 fo, .bool sh, .slice Ab bl.length cb, .int .i64 cut] 28)) := (Below.refl _ W).alloc (Nat.le_refl _) _
  have d6 : (T.k == 6) = false := by simp; omega
  have e6 : decide (T.k = 6) = false := decide_eq_false hF
  have HP1 := Lib.hid hp1
  have HBEL := Lib.hid hbel
  have HT := Lib.hid h
  have HBL := Lib.hid hbl
  have HWF := Lib.hid hwf
  have HSH := Lib.hid hsh
  have HG := Lib.hid hG
  have hbm2 : bl.length ≤ 9223372036854775807 := by simp only [maxLen] at hbm; omega
  clear hp1 hbel h hbl hwf hsh hG
  go_enter Tryd.func4, Tryd.ntmps4
  go_wp2_with (first
    | (go_at_call 9
       go_must (
         (refine (zzFits16_calls _ T.k T.u fo T.x cut T.s A Ab T.n c bl.length cb sh).mono ?_)
         rintro e w2 ⟨rfl, hb2⟩
         have hp2 := HP1.out.below hb2 HP1.out.lt
         have m0 := hp2.cell 0
         have m1 := hp2.cell 1
         have m2 := hp2.cell 2
         have m3 := hp2.cell 3
         have m4 := hp2.cell 4
         have m5 := hp2.cell 5
         have m6 := hp2.cell 6
         have m7 := hp2.cell 7
         have m8 := hp2.cell 8
         simp only [List.getElem?_cons_zero, List.getElem?_cons_succ] at m0 m1 m2 m3 m4 m5 m6 m7 m8
         have HP2 := Lib.hid hp2
         have HB2 : Hid (Below W.heap.size W w2) := HBEL.out.trans (hb2.mono HBEL.out.size)
         clear hp2 hb2))
    | (go_at_call 17
       first
       | (have HDD := HD.out
          clear HDD
          go_must (
         (have hbt : b = true := by first | assumption | (have hx : (!b) = false := (by assumption); simpa using hx))
         obtain ⟨hfit, hl100, hA2, hm2, enc, hfp, hm, hmc, hcm, hr⟩ := HD.out hbt
         subst hA2
         subst hm2
         subst hm
         refine (GT_unfit w4 c1 A1 T enc bl hfp hfit HWF.out hF hr hmc hcm ts vs ?_).mono ?_
         · rw [HB4.out.cell (by show _ < _; exact HG.out)]; exact HSH.out
         rintro e w5 ⟨rfl, hb5⟩
         have HB5 : Hid (Below W.heap.size W w5) := HB4.out.trans (hb5.mono HB4.out.size)
         have hp5 := HP4.out.below hb5 HP4.out.lt
         have l0 := hp5.cell 0
         have l1 := hp5.cell 1
         have l2 := hp5.cell 2
         have l3 := hp5.cell 3
         have l4 := hp5.cell 4
         have l5 := hp5.cell 5
         have l6 := hp5.cell 6
         have l7 := hp5.cell 7
         have l8 := hp5.cell 8
         simp only [List.getElem?_cons_zero, List.getElem?_cons_succ] at l0 l1 l2 l3 l4 l5 l6 l7 l8
         have HP5 := Lib.hid hp5
         clear hb5 hp5 k0 k1 k2 k3 k4 k5 k6 k7 k8))
       | go_must (
         (refine (GT_awake w2).mono ?_)
         rintro e w3 ⟨A0, c0, A0b, c0b, rfl, hr3, hr3b, hb3⟩
         have hc3 : (convert 26 9 (.slice A0 1 c0)).run Tryd.prog w3 = .ok (.string ⟨#[97]⟩) w3 := conv_reads (P := Tryd.prog) (c := c0) hr3 _ _ _ Tryd.underlying26 Tryd.underlying5 Tryd.underlying9
         have hba : Below W.heap.size W (w2.alloc (.cells #[.int .u8 161, .int .u8 97] 5)) := HB2.out.alloc HB2.out.size _
         have HB3 : Hid (Below W.heap.size W w3) := hba.trans (hb3.mono hba.size)
         have hp3 := (HP2.out.alloc (.cells #[.int .u8 161, .int .u8 97] 5)).below hb3 (HP2.out.alloc (.cells #[.int .u8 161, .int .u8 97] 5)).lt
         have j0 := hp3.cell 0
         have j1 := hp3.cell 1
         have j2 := hp3.cell 2
         have j3 := hp3.cell 3
         have j4 := hp3.cell 4
         have j5 := hp3.cell 5
         have j6 := hp3.cell 6
         have j7 := hp3.cell 7
         have j8 := hp3.cell 8
         simp only [List.getElem?_cons_zero, List.getElem?_cons_succ] at j0 j1 j2 j3 j4 j5 j6 j7 j8
         have HP3 := Lib.hid hp3
         clear hp3 hb3 hba hr3 hr3b m0 m1 m2 m3 m4 m5 m6 m7 m8))
    | (go_at_call 11
       go_must (
         (refine (data_calls T _ fo cut A Ab c cb sh bl (TR.more HB3.out.size _ _ _ (TR.below HB3.out _ _ _ HT.out)) ((HBL.out.below HB3.out).more HB3.out.size) hbc hbm).mono ?_)
         rintro e w4 hdat
         obtain ⟨A1, m1, c1, A2, m2, c2, b, rfl, hb4, hd⟩ := hdat.whole (by omega)
         have HB4 : Hid (Below W.heap.size W w4) := HB3.out.trans (hb4.mono HB3.out.size)
         have hp4 := HP3.out.below hb4 HP3.out.lt
         have k0 := hp4.cell 0
         have k1 := hp4.cell 1
         have k2 := hp4.cell 2
         have k3 := hp4.cell 3
         have k4 := hp4.cell 4
         have k5 := hp4.cell 5
         have k6 := hp4.cell 6
         have k7 := hp4.cell 7
         have k8 := hp4.cell 8
         simp only [List.getElem?_cons_zero, List.getElem?_cons_succ] at k0 k1 k2 k3 k4 k5 k6 k7 k8
         have HD := Lib.hid hd
         have HP4 := Lib.hid hp4
         clear hdat hd hb4 hp4 j0 j1 j2 j3 j4 j5 j6 j7 j8)))
  all_goals (
    (try simp only [Exit.inBlock, Exit.then])
    go_ret
    first
      | exact ⟨rfl, HB9.out⟩
      | exact ⟨rfl, HB5.out.alloc HB5.out.size _⟩
      | exact ⟨rfl, HB5.out⟩
      | exact ⟨rfl, HB4.out⟩
      | exact ⟨rfl, HB2.out⟩)
end Go.Proofs.YtlpnaifagiddlaaDoor
