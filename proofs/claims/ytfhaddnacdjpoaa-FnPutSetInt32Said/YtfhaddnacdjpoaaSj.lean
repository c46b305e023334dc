/- spec.SamePack at arrays of whole numbers; laws.isSet. PRINTED by wip/gensj.py. -/
import Derived.Test.YtfhaddnacdjpoaaSi
import Derived.Test.YtfhaddnacdjpoaaKh
import Derived.Test.YtfhaddnacdjpoaaKi
import Derived.StillTailTactics
namespace Go.Proofs.Ytfhaddnacdjpoaa
open Go.RowKit
set_option linter.unusedVariables false

set_option maxHeartbeats 1000000 in
set_option maxRecDepth 100000 in
theorem SamePack_posR (w : World) (u x : Int) (s : ByteArray) (h0 : 0 ≤ u) (h1 : u < 9223372036854775808) :
    Calls Try.prog 14 #[.agg #[.int .i64 3, .int .u64 u, .string s, .int .i64 x, .slice none 0 0], .agg #[.int .i64 2, .int .u64 u, .string s, .int .i64 x, .slice none 0 0]] w fun e w' => e = .returned (.bool true) ∧ Below w.heap.size w w' := by
  have hw : wrap64 u = u := wrap_same u h0 h1
  go_enter Try.func14, Try.ntmps14
  go_wp2
  refine wp_loop_rounds 1 ?_
  rw [rounds_succ]
  go_wp2
  go_ret
  exact ⟨rfl, by first | exact ((Below.refl _ w).alloc (Nat.le_refl _) _).alloc (by simp) _ | exact (((Below.refl _ w).alloc (Nat.le_refl _) _).alloc (by simp) _).setCell (by simp) _⟩

/-- Values in a row, as they are read. -/
def KRow (w : World) (A : Option Addr) (n : Nat) (xs : List Value) : Prop := 0 < n → ∃ g, A = some ⟨g, 0, none⟩ ∧ g < w.heap.size ∧ ∀ i u, xs[i]? = some u → w.cell? ⟨g, i, none⟩ = some u
theorem KRow.of_own {w : World} {base n c : Nat} {A : Option Addr} {t : TypeId} {xs : List Value} (h : w.ownsRow base t 5 (.slice A n c) n xs) : KRow w A n xs := by
  intro hn
  have hr := Reads.of_own h
  rcases h.2 with ⟨hv, h0⟩ | ⟨g, cap, cur, hv, _⟩
  · omega
  · cases hv
    obtain ⟨ad, had, hb, hc⟩ := hr.2 hn
    cases had
    refine ⟨g, rfl, hb, fun i u hu => ?_⟩
    have := hc i u hu
    rwa [add_lit, Nat.zero_add] at this
theorem KRow.below {w w' : World} {A : Option Addr} {n : Nat} {xs : List Value} (h : KRow w A n xs) (hb : Below w.heap.size w w') : KRow w' A n xs := by
  intro hn
  obtain ⟨g, hA, hg, hc⟩ := h hn
  exact ⟨g, hA, Nat.lt_of_lt_of_le hg hb.size, fun i u hu => (hb.cell (p := ⟨g, i, none⟩) hg).trans (hc i u hu)⟩
theorem fl5_at (f : Int → List Value) (hf : ∀ x, (f x).length = 5) (l : List Int) : ∀ (j i : Nat), j < l.length → i < 5 → (l.flatMap f)[j * 5 + i]? = (f (l.getD j 0))[i]? := by
  induction l with
  | nil => intro j i hj; simp at hj
  | cons x xs ih =>
    intro j i hj hi
    rw [List.flatMap_cons]
    cases j with
    | zero =>
      rw [List.getElem?_append_left (by rw [hf]; omega)]
      simp
    | succ j =>
      rw [List.getElem?_append_right (by rw [hf]; omega), hf, show (j + 1) * 5 + i - 5 = j * 5 + i by omega, ih j i (by simpa using hj) hi]
      simp

set_option maxHeartbeats 4000000 in
set_option maxRecDepth 100000 in
theorem SamePack_kids (w : World) (Aa Ab : Option Addr) (n ca cb : Nat) (ka ua kb ub : Int → Int) (l : List Int) (hn : n = l.length) (hn1 : n ≤ 1000) (ha : KRow w Aa n (l.flatMap fun x => n5 (ka x) (ua x))) (hb : KRow w Ab n (l.flatMap fun x => n5 (kb x) (ub x)))
    (hs : ∀ x, x ∈ l → ∀ W : World, Calls Try.prog 14 #[.agg #[.int .i64 (ka x), .int .u64 (ua x), .string ⟨#[]⟩, .int .i64 0, .slice none 0 0], .agg #[.int .i64 (kb x), .int .u64 (ub x), .string ⟨#[]⟩, .int .i64 0, .slice none 0 0]] W fun e w' => e = .returned (.bool true) ∧ Below W.heap.size W w') :
    Calls Try.prog 14 #[.agg #[.int .i64 8, .int .u64 0, .string ⟨#[]⟩, .int .i64 0, .slice Aa n ca], .agg #[.int .i64 8, .int .u64 0, .string ⟨#[]⟩, .int .i64 0, .slice Ab n cb]] w fun e w' => e = .returned (.bool true) ∧ Below w.heap.size w w' := by
  have HA := Lib.hid ha
  have HB := Lib.hid hb
  have HS := Lib.hid hs
  have HN := Lib.hid hn
  clear ha hb hs hn
  go_enter Try.func14, Try.ntmps14
  go_wp2
  go_loopw [64] (fun i wr => ∃ j : Nat, j ≤ n ∧ i = .int .i64 j ∧ Hid (Below (w.heap.size + 1 + 1) ((w.alloc (.cells #[.int .i64 8, .int .u64 0, .string ⟨#[]⟩, .int .i64 0, .slice Aa n ca] 29)).alloc (.cells #[.int .i64 8, .int .u64 0, .string ⟨#[]⟩, .int .i64 0, .slice Ab n cb] 29)) wr)) (fun i _ => n - (intOf i).toNat)
  case atStart => exact ⟨0, Nat.zero_le _, rfl, Below.refl _ _⟩
  case round =>
    obtain ⟨j, hj, rfl, hst⟩ := hrel
    have hba : Blk wr w.heap.size 29 [.int .i64 8, .int .u64 0, .string ⟨#[]⟩, .int .i64 0, .slice Aa n ca] := ((Blk.new w 29 [_, _, _, _, _]).alloc _).below hst.out (by omega)
    have hbb : Blk wr (w.heap.size + 1) 29 [.int .i64 8, .int .u64 0, .string ⟨#[]⟩, .int .i64 0, .slice Ab n cb] := by
      have := Blk.new (w.alloc (.cells #[.int .i64 8, .int .u64 0, .string ⟨#[]⟩, .int .i64 0, .slice Aa n ca] 29)) 29 [.int .i64 8, .int .u64 0, .string ⟨#[]⟩, .int .i64 0, .slice Ab n cb]
      rw [show (w.alloc (.cells #[.int .i64 8, .int .u64 0, .string ⟨#[]⟩, .int .i64 0, .slice Aa n ca] 29)).heap.size = w.heap.size + 1 by simp] at this
      exact this.below hst.out (by omega)
    have hbel : Below w.heap.size w wr := ((((Below.refl _ w).alloc (Nat.le_refl _) _).alloc (by simp) _)).trans (hst.out.mono (by omega))
    have v4 : wr.cell? ⟨w.heap.size, 4, none⟩ = some (.slice Aa n ca) := hba.cell 4
    have x4 : wr.cell? ⟨w.heap.size + 1, 4, none⟩ = some (.slice Ab n cb) := hbb.cell 4
    have zb := hbb.lt
    have hzz : w.heap.size + 1 + 1 ≤ wr.heap.size := zb
    have HBEL := Lib.hid hbel
    clear hba hbb hbel
    by_cases hlt : j < n
    · obtain ⟨ga, hga, hla, hca⟩ := HA.out (by omega)
      obtain ⟨gb, hgb, hlb, hcb⟩ := HB.out (by omega)
      subst hga
      subst hgb
      have hjl : j < l.length := by rw [← HN.out]; exact hlt
      obtain ⟨x, hX⟩ : ∃ x, x = l.getD j 0 := ⟨_, rfl⟩
      have hxl : x ∈ l := by rw [hX]; exact getD_memS l j hjl
      have hsx := HS.out x hxl wr.drew
      have hbelc : ∀ (g : Nat) (i : Nat) {u : Value}, g < w.heap.size → w.cell? ⟨g, i, none⟩ = some u → wr.cell? ⟨g, i, none⟩ = some u := fun g i u hg hu => (HBEL.out.cell (p := ⟨g, i, none⟩) hg).trans hu
      have hata : ∀ i, i < 5 → (l.flatMap fun x => n5 (ka x) (ua x))[j * 5 + i]? = (n5 (ka x) (ua x))[i]? := fun i hi => by rw [hX]; exact fl5_at (fun x => n5 (ka x) (ua x)) (fun _ => rfl) l j i hjl hi
      have hatb : ∀ i, i < 5 → (l.flatMap fun x => n5 (kb x) (ub x))[j * 5 + i]? = (n5 (kb x) (ub x))[i]? := fun i hi => by rw [hX]; exact fl5_at (fun x => n5 (kb x) (ub x)) (fun _ => rfl) l j i hjl hi
      obtain ⟨k1, hk1⟩ : ∃ k1, k1 = ka x := ⟨_, rfl⟩
      obtain ⟨k2, hk2⟩ : ∃ k2, k2 = kb x := ⟨_, rfl⟩
      obtain ⟨u1, hu1⟩ : ∃ u1, u1 = ua x := ⟨_, rfl⟩
      obtain ⟨u2, hu2⟩ : ∃ u2, u2 = ub x := ⟨_, rfl⟩
      rw [← hk1, ← hk2, ← hu1, ← hu2] at hsx
      rw [← hk1, ← hu1] at hata
      rw [← hk2, ← hu2] at hatb
      have ca0 : wr.cell? ⟨ga, j * 5, none⟩ = some (.int .i64 k1) := hbelc ga _ hla (hca (j * 5 + 0) _ (hata 0 (by omega)))
      have ca1 : wr.cell? ⟨ga, j * 5 + 1, none⟩ = some (.int .u64 u1) := hbelc ga _ hla (hca (j * 5 + 1) _ (hata 1 (by omega)))
      have ca2 : wr.cell? ⟨ga, j * 5 + 2, none⟩ = some (.string ⟨#[]⟩) := hbelc ga _ hla (hca (j * 5 + 2) _ (hata 2 (by omega)))
      have ca3 : wr.cell? ⟨ga, j * 5 + 3, none⟩ = some (.int .i64 0) := hbelc ga _ hla (hca (j * 5 + 3) _ (hata 3 (by omega)))
      have ca4 : wr.cell? ⟨ga, j * 5 + 4, none⟩ = some (.slice none 0 0) := hbelc ga _ hla (hca (j * 5 + 4) _ (hata 4 (by omega)))
      have cb0 : wr.cell? ⟨gb, j * 5, none⟩ = some (.int .i64 k2) := hbelc gb _ hlb (hcb (j * 5 + 0) _ (hatb 0 (by omega)))
      have cb1 : wr.cell? ⟨gb, j * 5 + 1, none⟩ = some (.int .u64 u2) := hbelc gb _ hlb (hcb (j * 5 + 1) _ (hatb 1 (by omega)))
      have cb2 : wr.cell? ⟨gb, j * 5 + 2, none⟩ = some (.string ⟨#[]⟩) := hbelc gb _ hlb (hcb (j * 5 + 2) _ (hatb 2 (by omega)))
      have cb3 : wr.cell? ⟨gb, j * 5 + 3, none⟩ = some (.int .i64 0) := hbelc gb _ hlb (hcb (j * 5 + 3) _ (hatb 3 (by omega)))
      have cb4 : wr.cell? ⟨gb, j * 5 + 4, none⟩ = some (.slice none 0 0) := hbelc gb _ hlb (hcb (j * 5 + 4) _ (hatb 4 (by omega)))
      have HSX := Lib.hid hsx
      clear hca hcb hata hatb hX hbelc hsx hxl hk1 hk2 hu1 hu2
      have hj1 : (0 : Int) ≤ (j : Int) := by omega
      have hj2 : (j : Int) < (n : Int) := by omega
      go_wp2
      go_still_tail 10, (by kernel_rfl)
      change wpList _ _ _ _ _ wr.drew
      go_wp2_with (
        (go_at_call 14)
        go_must (
          (refine HSX.out.mono ?_)
          rintro r w2 ⟨rfl, hb2⟩
          have HB2 := Lib.hid (hst.out.drew.trans (hb2.mono (show w.heap.size + 1 + 1 ≤ wr.heap.size from hzz)))
          clear hb2))
      go_roundw
      case rel => exact ⟨j + 1, by omega, by go_num, HB2.out⟩
      case measure => simp [intOf]; omega
    · obtain rfl : j = n := by omega
      have hkm2 : decide ((j : Int) < (j : Int)) = false := decide_eq_false (by omega)
      go_wp2
      go_ret
      exact ⟨rfl, HBEL.out⟩

/-- What was taken, and the values wanted: in whatever world where both rows lie. -/
def SameAt (n : Nat) (Ab : Option Addr) (cb : Nat) (xa xb : List Value) : Prop := ∀ (W : World) (A5 : Option Addr) (c5 : Nat), KRow W A5 n xa → KRow W Ab n xb →
  Calls Try.prog 14 #[.agg #[.int .i64 8, .int .u64 0, .string ⟨#[]⟩, .int .i64 0, .slice A5 n c5], .agg #[.int .i64 8, .int .u64 0, .string ⟨#[]⟩, .int .i64 0, .slice Ab n cb]] W fun e w' => e = .returned (.bool true) ∧ Below W.heap.size W w'

set_option maxHeartbeats 4000000 in
set_option maxRecDepth 100000 in
theorem isSet_calls (w : World) (B c0 c1 N n cb : Nat) (A0 A1 Ab : Option Addr) (lb r l : List Int) (ga gb : Int → List Value) (hN : N = (lb ++ r).length) (hn : n = l.length) (h0 : Reads w B 1 A0 lb.length (bs lb)) (h1 : Reads w B 1 A1 N (bs (lb ++ r))) (hB : B ≤ w.heap.size)
    (hc0 : lb.length ≤ c0) (hc1 : N ≤ c1) (hm1 : c1 ≤ maxLen)
    (htake : ∀ (W : World) (A : Option Addr) (c : Nat), Reads W B 1 A r.length (bs r) → B ≤ W.heap.size → r.length ≤ c → c ≤ maxLen → Calls Try.prog 13 #[.slice A r.length c, .int .i64 3] W (Kids W B ga l []))
    (hkb : KRow w Ab n (l.flatMap gb)) (hsame : SameAt n Ab cb (l.flatMap ga) (l.flatMap gb)) :
    Calls Try.prog 8 #[.slice A0 lb.length c0, .slice A1 N c1, .slice Ab n cb] w fun e w' => e = .returned (.bool true) ∧ Below w.heap.size w w' := by
  have hl : (lb ++ r).length = lb.length + r.length := List.length_append
  have hm1' : c1 ≤ 9223372036854775807 := by unfold maxLen at hm1; omega
  have hc1' : lb.length + r.length ≤ c1 := by omega
  subst hN
  have R1 : Reads w B 1 A1 lb.length (bs lb) := by
    have := h1.take1 (k := lb.length) (by omega)
    rwa [bs_take, List.take_left' rfl] at this
  have hR : ∀ A', (A' = if c1 = lb.length then A1 else A1.map (·.add lb.length)) → Reads w B 1 A' r.length (bs r) := fun A' hA' => by
    have := reads_cut (k := lb.length) h1 (by omega) hc1 hA'
    rwa [List.drop_left' rfl] at this
  have HR := Lib.hid hR
  rw [hl]
  have hcv0 : ∀ n c, (convert 22 9 (.slice A0 lb.length c)).run Try.prog (w.drewN n) = .ok (.string (strOfNums lb)) (w.drewN n) := fun n c => conv_reads (h0.drewN n) _ _ _ Try.underlying22 Try.underlying5 Try.underlying9
  have hcv1 : ∀ n c, (convert 22 9 (.slice A1 lb.length c)).run Try.prog (w.drewN n) = .ok (.string (strOfNums lb)) (w.drewN n) := fun n c => conv_reads (R1.drewN n) _ _ _ Try.underlying22 Try.underlying5 Try.underlying9
  clear hR R1 h0 h1 hc1 hl
  have HT := Lib.hid htake
  have HS := Lib.hid hsame
  have HKB := Lib.hid hkb
  have HN := Lib.hid hn
  clear htake hsame hkb hn
  have hd0 : decide (lb.length + r.length < lb.length) = false := by simp
  have hd1 : decide ((lb.length : Int) + (r.length : Int) < (lb.length : Int)) = false := by simp; omega
  by_cases hcc : c1 = lb.length
  all_goals
    go_enter Try.func8, Try.ntmps8
    go_wp2
    go_quiet (fail)
    go_wp2_with (first
      | (go_at_call 13
         go_must (
           (refine (HT.out _ _ _ ((HR.out _ (by first | rw [if_pos hcc] | rw [if_neg hcc])).drewN nq) (by simpa using hB) (by omega) (by omega)).mono ?_)
           rintro e w1 ⟨A5, c5, A', c', rfl, hl', hcm', hr', hk', hbel⟩
           rw [← HN.out]
           have hbel1 : Below w.heap.size w w1 := (below_drewN (Below.refl _ w) nq).trans hbel
           have hka := KRow.of_own hk'
           rw [← HN.out] at hka
           have HKA := Lib.hid hka
           have HBEL := Lib.hid hbel1
           clear hr' hk' hbel hka hbel1))
      | (go_at_call 14
         go_must (
           (refine (HS.out _ _ _ (HKA.out.below ((Below.refl _ _).alloc (Nat.le_refl _) _)) ((HKB.out.below HBEL.out).below ((Below.refl _ _).alloc (Nat.le_refl _) _))).mono ?_)
           rintro e w2 ⟨rfl, hbel2⟩
           have HBEL2 := Lib.hid hbel2
           clear hbel2)))
    go_ret
    exact ⟨rfl, (HBEL.out.alloc HBEL.out.size _).trans (HBEL2.out.mono (by have := HBEL.out.size; simp; omega))⟩

/-- An array of whole numbers is taken. -/
theorem take_array (enc : Int → List Int) (kd uu : Int → Int) (B n : Nat) (l rest : List Int) (hn : n = l.length) (hl : n ≤ 1000) (hrb : IsB rest) (heb : ∀ x, x ∈ l → IsB (enc x)) (he1 : ∀ x, x ∈ l → 1 ≤ (enc x).length)
    (HP : ∀ x, x ∈ l → ∀ (R : List Int), IsB R → ∀ (W : World) (A : Option Addr) (c : Nat), Reads W B 1 A (enc x ++ R).length (bs (enc x ++ R)) → B ≤ W.heap.size → (enc x ++ R).length ≤ c → c ≤ maxLen → Calls Try.prog 13 #[.slice A (enc x ++ R).length c, .int .i64 2] W (Coded W B (pk (kd x) (uu x) ⟨#[]⟩ 0) R))
    (W : World) (A : Option Addr) (c : Nat) (h : Reads W B 1 A (encA n ++ (l.flatMap enc ++ rest)).length (bs (encA n ++ (l.flatMap enc ++ rest)))) (hB : B ≤ W.heap.size) (hc : (encA n ++ (l.flatMap enc ++ rest)).length ≤ c) (hm : c ≤ maxLen) :
    Calls Try.prog 13 #[.slice A (encA n ++ (l.flatMap enc ++ rest)).length c, .int .i64 3] W (Kids W B (fun x => n5 (kd x) (uu x)) l rest) := by
  subst hn
  have hrB : IsB (l.flatMap enc ++ rest) := by
    intro y hy
    rcases List.mem_append.1 hy with h | h
    · obtain ⟨z, hz, hy'⟩ := List.mem_flatMap.1 h
      exact heb z hz y hy'
    · exact hrb y h
  have hkt : ∀ (W : World) (c : Nat) (A : Option Addr), Reads W B 1 A (l.flatMap enc ++ rest).length (bs (l.flatMap enc ++ rest)) → B ≤ W.heap.size → (l.flatMap enc ++ rest).length ≤ c → c ≤ maxLen → Calls Try.prog 23 #[.int .i64 8, .int .i64 (l.length : Int), .slice A (l.flatMap enc ++ rest).length c, .int .i64 3] W (Kids W B (fun x => n5 (kd x) (uu x)) l rest) := fun W c A h hB hc hm =>
    takeKids_calls enc kd uu W B c _ A l rest hrb heb hB HP rfl h hc hm hl
  have hfl : l.length ≤ (l.flatMap enc ++ rest).length := by
    have : ∀ (l : List Int), (∀ x, x ∈ l → 1 ≤ (enc x).length) → l.length ≤ (l.flatMap enc).length := by
      intro l
      induction l with
      | nil => intro _; simp
      | cons x xs ih =>
        intro h
        have h1 := h x (by simp)
        have h2 := ih fun y hy => h y (by simp [hy])
        rw [List.flatMap_cons, List.length_append, List.length_cons]
        omega
    have := this l he1
    rw [List.length_append]
    omega
  unfold encA at h hc ⊢
  by_cases h15 : l.length ≤ 15
  · rw [if_pos h15] at h hc ⊢
    exact TakePack_arr W B c A (144 + (l.length : Int)) (l.flatMap enc ++ rest) h hB (isB_cons (by omega) (by omega) hrB) hc hm l.length h15 rfl _ l rest hkt
  · rw [if_neg h15] at h hc ⊢
    refine TakePack_codedA W B c A 220 (be l.length 2 ++ (l.flatMap enc ++ rest)) h hB (isB_cons (by omega) (by omega) (isB_append (isB_be _ _) hrB)) hc hm (by omega) (by omega) _ l rest (fun W' c' A' h' hB' hc' hm' => ?_)
    exact coded220 W' B c' l.length _ A' (l.flatMap enc ++ rest) rfl h' hB' (isB_append (isB_be _ _) hrB) hc' hm' (by omega) hfl _ l rest hkt
end Go.Proofs.Ytfhaddnacdjpoaa
