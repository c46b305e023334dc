/- The laws FnStreamPutUint, FnStreamPutInt: what a Writer wrote is read back. The walks. PRINTED by wip/gens.py. -/
import Derived.Test.YtohainhkplombaaKv
import Derived.Test.YtohainhkplombaaKo
namespace Go.Proofs.Ytohainhkplombaa
open Go.RowKit
set_option linter.unusedVariables false

theorem infoPack : (Try.prog.info? 31).map (fun i => (i.zero, i.size, i.bytes)) = some (some (.agg #[.int .i64 0, .int .u64 0, .string ⟨#[]⟩, .int .i64 0, .slice none 0 0]), 5, 64) := by kernel_rfl
/-- The cells of a value without values in it. -/
def c5 (k u : Int) : List Value := [.int .i64 k, .int .u64 u, .string ⟨#[]⟩, .int .i64 0, .slice none 0 0]
theorem c5_length (k u : Int) : (c5 k u).length = 5 := rfl
theorem c5_one (k u : Int) : ∀ v ∈ c5 k u, v.oneCell' = true := by
  intro v hv
  simp only [c5, List.mem_cons, List.not_mem_nil, or_false] at hv
  rcases hv with rfl | rfl | rfl | rfl | rfl <;> rfl
theorem reads_five (w : World) (k u : Int) (t : TypeId) : Reads (w.alloc (.cells #[.int .i64 k, .int .u64 u, .string ⟨#[]⟩, .int .i64 0, .slice none 0 0] t)) (w.heap.size + 1) 5 (some ⟨w.heap.size, 0, none⟩) 1 (c5 k u) := by
  refine ⟨rfl, fun _ => ⟨_, rfl, by simp, fun j v hv => ?_⟩⟩
  rw [add_lit, Nat.zero_add]
  exact ((Blk.new w t (c5 k u)).cell j).trans hv
theorem flat5_length (l : List Int) (g : Int → List Value) (hg : ∀ x, (g x).length = 5) : (l.flatMap g).length = l.length * 5 := by
  induction l with
  | nil => rfl
  | cons x xs ih => rw [List.flatMap_cons, List.length_append, hg, ih, List.length_cons]; omega
theorem flat5_at (l : List Int) (g : Int → List Value) (hg : ∀ x, (g x).length = 5) : ∀ k, k < l.length → ∀ j, j < 5 → (l.flatMap g)[k * 5 + j]? = (g (l.getD k 0))[j]? := by
  induction l with
  | nil => intro k hk; simp at hk
  | cons x xs ih =>
    intro k hk j hj
    rw [List.flatMap_cons]
    cases k with
    | zero => rw [List.getElem?_append_left (by rw [hg]; omega)]; simp
    | succ k =>
      rw [List.getElem?_append_right (by rw [hg]; omega), hg]
      have := ih k (by simpa using hk) j hj
      rw [show (k + 1) * 5 + j - 5 = k * 5 + j by omega, this]
      simp
theorem wants_own {w : World} {B c : Nat} {A : Option Addr} {l : List Int} {wk wu : Int → Int} (h : w.ownsRow B 31 5 (.slice A l.length c) l.length (l.flatMap fun x => c5 (wk x) (wu x))) : Wants w w.heap.size A l wk wu := fun h0 => by
  obtain ⟨g, cap, hv, _, hlt⟩ := h.form h0
  have hA : A = some ⟨g, 0, none⟩ := by injection hv
  subst hA
  refine ⟨g, rfl, hlt, fun k hk j u hu => ?_⟩
  have hj : j < 5 := by
    rcases Nat.lt_or_ge j 5 with h | h
    · exact h
    · rw [List.getElem?_eq_none (by simpa using h)] at hu; cases hu
  have := h.cells (g := g) rfl (k * 5 + j) u (by rw [flat5_at l _ (fun _ => rfl) k hk j hj]; exact hu)
  rwa [add_lit, Nat.zero_add] at this

theorem buffers_yes (w : World) (b : Int) (h0 : 18 ≤ b) (h1 : b ≤ 65536) : Calls Try.prog 8 #[.int .i64 b, .int .i64 1] w fun e w' => e = .returned (.bool true) ∧ w = w' := by
  go_enter Try.func8, Try.ntmps8
  go_wp2
  go_ret
  exact ⟨rfl, rfl⟩
theorem buffers_no (w : World) (b : Int) (h : b < 18 ∨ 65536 < b) : Calls Try.prog 8 #[.int .i64 b, .int .i64 1] w fun e w' => e = .returned (.bool false) ∧ w = w' := by
  rcases h with h | h
  · go_enter Try.func8, Try.ntmps8
    go_wp2
    go_ret
    exact ⟨rfl, rfl⟩
  · by_cases h18 : 18 ≤ b
    · go_enter Try.func8, Try.ntmps8
      go_wp2
      go_ret
      exact ⟨rfl, rfl⟩
    · omega

theorem takeR_encI (u : Int) (h0 : -9223372036854775808 ≤ u) (h1 : u ≤ 9223372036854775807) (rest : List Int) (hrb : IsB rest) (W : World) (B c : Nat) (A : Option Addr) (h : Reads W B 1 A (encI u ++ rest).length (bs (encI u ++ rest))) (hB : B ≤ W.heap.size) (hc : (encI u ++ rest).length ≤ c) (hm : c ≤ maxLen) :
    Calls Try.prog 18 #[.slice A (encI u ++ rest).length c, .int .i64 2] W (Coded W B (.agg #[.int .i64 (if 0 ≤ u then 3 else 2), .int .u64 (if 0 ≤ u then u else u + 18446744073709551616), .string ⟨#[]⟩, .int .i64 0, .slice none 0 0]) rest) := by
  by_cases hp : 0 ≤ u
  · rw [if_pos hp, if_pos hp]; exact takeR_encI_pos u hp h1 rest hrb W B c A h hB hc hm
  · rw [if_neg hp, if_neg hp]; exact takeR_encI_neg u h0 (by omega) rest hrb W B c A h hB hc hm
theorem sameInt (u : Int) (h0 : -9223372036854775808 ≤ u) (h1 : u ≤ 9223372036854775807) (W : World) :
    Calls Try.prog 19 #[.agg #[.int .i64 2, .int .u64 (IntKind.u64.wrap u), .string ⟨#[]⟩, .int .i64 0, .slice none 0 0], .agg #[.int .i64 (if 0 ≤ u then 3 else 2), .int .u64 (if 0 ≤ u then u else u + 18446744073709551616), .string ⟨#[]⟩, .int .i64 0, .slice none 0 0]] W fun e w' => e = .returned (.bool true) ∧ Below W.heap.size W w' := by
  by_cases hp : 0 ≤ u
  · rw [if_pos hp, if_pos hp, show IntKind.u64.wrap u = u by rw [IntKind.wrap_u64]; omega]
    exact SamePack_pos W u 0 ⟨#[]⟩ hp (by omega)
  · rw [if_neg hp, if_neg hp, show IntKind.u64.wrap u = u + 18446744073709551616 by rw [IntKind.wrap_u64]; omega]
    exact SamePack_neg W (u + 18446744073709551616) 0 ⟨#[]⟩ (by omega) (by omega)
theorem wants_more {W : World} {B B' : Nat} {A : Option Addr} {l : List Int} {wk wu : Int → Int} (h : Wants W B A l wk wu) (hB : B ≤ B') : Wants W B' A l wk wu := fun h0 => by
  obtain ⟨g, hA, hg, hc⟩ := h h0
  exact ⟨g, hA, by omega, hc⟩
theorem own_form5 {w : World} {base n : Nat} {e : TypeId} {size : Nat} {v : Value} {xs : List Value} (h : w.ownsRow base e size v n xs) : ∃ A c, v = .slice A n c ∧ n ≤ c ∧ c ≤ maxLen := own_form h

theorem StreamPutUint_calls (w : World) (A : Option Addr) (c : Nat) (sz : Int) (l : List Int) (h : Reads w w.heap.size 1 A l.length (l.map (Value.int .u64))) (h18 : 18 ≤ sz) (hsz : sz ≤ 65536) (hl : ∀ x ∈ l, 0 ≤ x ∧ x ≤ 18446744073709551615) (hn : l.length ≤ 100) :
    Calls Try.prog 12 #[.int .i64 sz, .slice A l.length c] w (Wrt w w.heap.size (l.flatMap encU)) := by
  have H := Lib.hid h
  have HL := Lib.hid hl
  clear h hl
  go_enter Try.func12, Try.ntmps12
  go_wp2_with (
    (go_at_call 23)
    go_must (
      (refine (StreamPutUint_written w A c sz l H.out h18 hsz HL.out hn).mono ?_)
      rintro e W1 ⟨A2, c2, rfl, hr, hc2, hm2, hbel⟩
      obtain ⟨N2, hN2⟩ : ∃ N2, N2 = (l.flatMap encU).length := ⟨_, rfl⟩
      rw [← hN2]
      have HN2 := Lib.hid hN2
      have HR := Lib.hid hr
      have HC := Lib.hid hc2
      have HBEL := Lib.hid hbel
      clear hr hc2 hbel hN2))
  go_ret2
  exact ⟨A2, c2, by rw [← HN2.out]; rfl, HR.out, HC.out, hm2, HBEL.out⟩
theorem StreamPutUint_awake (w : World) (A : Option Addr) (h : Reads w w.heap.size 1 A 1 [.int .u64 5]) : Calls Try.prog 12 #[.int .i64 100, .slice A 1 1] w (Wrt w w.heap.size [5]) := by
  have e := StreamPutUint_calls w A 1 100 [5] h (by omega) (by omega) (by simp) (by simp)
  exact e

set_option maxHeartbeats 4000000 in
set_option maxRecDepth 100000 in
theorem FnStreamPutUint_walk (w : World) (A : Option Addr) (c : Nat) (b : Int) (l : List Int) (h : Reads w w.heap.size 1 A l.length (l.map (Value.int .u64))) (hl : ∀ x ∈ l, 0 ≤ x ∧ x ≤ 18446744073709551615) :
    Calls Try.prog 5 #[.int .i64 b, .slice A l.length c] w fun e w' => e = .returned (.bool true) ∧ Below w.heap.size w w' := by
  have H := Lib.hid h
  have HL := Lib.hid hl
  clear h hl
  by_cases hz : 2147483647 < l.length
  · have hd : decide ((2147483647 : Int) < (l.length : Int)) = true := by simp; omega
    go_enter Try.func5, Try.ntmps5
    go_wp2
    go_ret
    exact ⟨rfl, Below.refl _ _⟩
  have hd : decide ((2147483647 : Int) < (l.length : Int)) = false := by simp; omega
  by_cases hb : b < 18 ∨ 65536 < b
  · have HB := Lib.hid hb
    clear hb
    go_enter Try.func5, Try.ntmps5
    go_wp2_with (first
      | (go_at_call 12
         go_must (
           (refine (StreamPutUint_awake _ _ (by simpa using reads_one w (.int .u64 5) 29)).mono ?_)
           rintro e w1 ⟨A1, c1, rfl, hr1, hc1, hm1, hbel1⟩
           have HBEL1 := Lib.hid hbel1
           clear hr1 hbel1))
      | (go_at_call 8
         go_must (
           (refine (buffers_no _ b HB.out).mono ?_)
           rintro e w' ⟨rfl, rfl⟩)))
    go_ret
    exact ⟨rfl, ((Below.refl _ w).alloc (Nat.le_refl _) _).trans (HBEL1.out.mono (by simp))⟩
  have hb0 : 18 ≤ b := by omega
  have hb1 : b ≤ 65536 := by omega
  clear hb
  by_cases hn : 100 < l.length
  · have hd2 : decide ((100 : Int) < (l.length : Int)) = true := by simp; omega
    go_enter Try.func5, Try.ntmps5
    go_wp2_with (first
      | (go_at_call 12
         go_must (
           (refine (StreamPutUint_awake _ _ (by simpa using reads_one w (.int .u64 5) 29)).mono ?_)
           rintro e w1 ⟨A1, c1, rfl, hr1, hc1, hm1, hbel1⟩
           have HBEL1 := Lib.hid hbel1
           clear hr1 hbel1))
      | (go_at_call 8
         go_must (
           (refine (buffers_yes _ b hb0 hb1).mono ?_)
           rintro e w' ⟨rfl, rfl⟩)))
    go_ret
    exact ⟨rfl, ((Below.refl _ w).alloc (Nat.le_refl _) _).trans (HBEL1.out.mono (by simp))⟩
  have hd2 : decide ((100 : Int) < (l.length : Int)) = false := by simp; omega
  obtain ⟨i0, hi0, hz0, hz1, hz2⟩ := info_parts infoPack
  go_enter Try.func5, Try.ntmps5
  go_wp2_with (first
    | (go_at_call 12
       go_must (
         (refine (StreamPutUint_awake _ _ (by simpa using reads_one w (.int .u64 5) 29)).mono ?_)
         rintro e w1 ⟨A1, c1, rfl, hr1, hc1, hm1, hbel1⟩
         have HBEL1 : Hid (Below w.heap.size w w1) := ((Below.refl _ w).alloc (Nat.le_refl _) _).trans (hbel1.mono (by simp))
         clear hr1 hbel1))
    | (go_at_call 8
       go_must (
         (refine (buffers_yes _ b hb0 hb1).mono ?_)
         rintro e w' ⟨rfl, rfl⟩)))
  go_loopw [8, 38] (fun d i wr => ∃ k A' c', k ≤ l.length ∧ i = .int .i64 (k : Nat) ∧ d = .slice A' k c' ∧ Hid (wr.ownsRow w.heap.size 31 5 (.slice A' k c') k ((l.take k).flatMap fun x => c5 (3) (x)) ∧ Below w.heap.size w wr)) (fun _ i _ => l.length - (intOf i).toNat)
  case atStart => exact ⟨0, none, 0, Nat.zero_le _, rfl, rfl, ⟨by simp, .inl ⟨rfl, rfl⟩⟩, HBEL1.out⟩
  case round =>
    obtain ⟨k, A', c', hk, rfl, rfl, hrest⟩ := hrel
    by_cases hlt : k < l.length
    · obtain ⟨ad, hA, hadB, hcell0⟩ := H.out.num hlt
      subst hA
      have hcell : wr.cell? (ad.add k) = some (.int .u64 (l.getD k 0)) := (hrest.out.2.cell (by rw [block_of_add]; exact hadB)).trans hcell0
      have hu := HL.out (l.getD k 0) (by rw [List.getD_eq_getElem?_getD, List.getElem?_eq_getElem hlt]; exact List.getElem_mem hlt)
      have hsn : (l.take (k + 1)).flatMap (fun x => c5 (3) (x)) = (l.take k).flatMap (fun x => c5 (3) (x)) ++ (fun x => c5 (3) (x)) (l.getD k 0) := by
        rw [List.take_succ_eq_append_getElem hlt, List.flatMap_append, List.getD_eq_getElem?_getD, List.getElem?_eq_getElem hlt]; simp
      obtain ⟨hu0, hu1⟩ := hu
      generalize l.getD k 0 = u at *
      have HSN := Lib.hid hsn
      clear hcell0 hsn
      have hwz : w.heap.size ≤ wr.heap.size := hrest.out.2.size
      go_wp2_with (
        (at_builtin)
        go_must (
          (refine wpList_append_any _ rfl (.tmp 42) (.tmp 45) 28 rfl w.heap.size 31 i0 _ 5 64 Try.underlying28 hi0 hz0 hz1 hz2 rfl (by omega) (.slice A' k c') k _ rfl (hrest.out.1.alloc _) (wr.heap.size + 1) _ 1 1 (c5 (3) (u)) rfl (reads_five _ _ _ _) (c5_one _ _) (by simp only [maxLen]; omega) (by omega) (by simp; omega) ?_)
          intro v1 w1' hown1 hg1 hat1
          obtain ⟨A1', c1', rfl, _, _⟩ := own_form5 hown1
          have HO1 := Lib.hid hown1
          have HG1 := Lib.hid hg1
          clear hown1 hg1 hat1))
      go_roundw
      case rel =>
        refine ⟨k + 1, A1', c1', by omega, by go_num, rfl, ?_, ?_⟩
        · rw [HSN.out]; exact HO1.out
        · refine (hrest.out.2.alloc hwz _).grown HG1.out (by simp; omega) (fun j hj => (hrest.out.1.lt j hj).1)
      case measure => simp [intOf]; omega
    · obtain rfl : k = l.length := by omega
      have HOW := Lib.hid hrest.out.1
      have HBR := Lib.hid hrest.out.2
      clear hrest
      go_wp2_with (first
        | (go_at_call 12
           go_must (
             (refine (StreamPutUint_calls wr A c b l ((H.out.below HBR.out).more HBR.out.size) hb0 hb1 HL.out (by omega)).mono ?_)
             rintro e w2 ⟨A2, c2, rfl, hr2, hc2, hm2, hbel2⟩
             obtain ⟨N2, hN2⟩ : ∃ N2, N2 = (l.flatMap encU).length := ⟨_, rfl⟩
             rw [← hN2]
             have HN2 := Lib.hid hN2
             have HR2 := Lib.hid hr2
             have HC2 := Lib.hid hc2
             have HBEL2 := Lib.hid hbel2
             clear hr2 hc2 hbel2 hN2))
        | (go_at_call 9
           go_must (
             (have hw := (wants_own (wk := fun x => 3) (wu := fun x => x) (by have := HOW.out; rw [List.take_length] at this; exact this)).below HBEL2.out)
             have hio := inOrder_calls w2 w2.heap.size c2 c' A2 A' l encU (fun x => 3) (fun x => x) (fun x => 3) (fun x => x) HR2.out (Nat.le_refl _) HC2.out hm2 (wants_more hw HBEL2.out.size) (by omega) (fun x hx => isB_encU x (HL.out x hx).1) (fun x hx rest hrest W A c h1 h2 h3 h4 => takeR_encU x (HL.out x hx).1 (HL.out x hx).2 rest hrest W _ c A h1 h2 h3 h4) (fun x hx W => SamePack_plain W 3 x 0 ⟨#[]⟩ (by decide))
             rw [← HN2.out] at hio
             refine hio.mono ?_
             rintro e w3 ⟨rfl, hbel3⟩
             have HBEL3 := Lib.hid hbel3
             clear hbel3)))
      go_ret
      have z1 := HBR.out.size
      have z2 := HBEL2.out.size
      exact ⟨rfl, (HBR.out.trans (HBEL2.out.mono z1)).trans (HBEL3.out.mono (by omega))⟩

theorem StreamPutInt_calls (w : World) (A : Option Addr) (c : Nat) (sz : Int) (l : List Int) (h : Reads w w.heap.size 1 A l.length (l.map (Value.int .i64))) (h18 : 18 ≤ sz) (hsz : sz ≤ 65536) (hl : ∀ x ∈ l, -9223372036854775808 ≤ x ∧ x ≤ 9223372036854775807) (hn : l.length ≤ 100) :
    Calls Try.prog 13 #[.int .i64 sz, .slice A l.length c] w (Wrt w w.heap.size (l.flatMap encI)) := by
  have H := Lib.hid h
  have HL := Lib.hid hl
  clear h hl
  go_enter Try.func13, Try.ntmps13
  go_wp2_with (
    (go_at_call 26)
    go_must (
      (refine (StreamPutInt_written w A c sz l H.out h18 hsz HL.out hn).mono ?_)
      rintro e W1 ⟨A2, c2, rfl, hr, hc2, hm2, hbel⟩
      obtain ⟨N2, hN2⟩ : ∃ N2, N2 = (l.flatMap encI).length := ⟨_, rfl⟩
      rw [← hN2]
      have HN2 := Lib.hid hN2
      have HR := Lib.hid hr
      have HC := Lib.hid hc2
      have HBEL := Lib.hid hbel
      clear hr hc2 hbel hN2))
  go_ret2
  exact ⟨A2, c2, by rw [← HN2.out]; rfl, HR.out, HC.out, hm2, HBEL.out⟩
theorem StreamPutInt_awake (w : World) (A : Option Addr) (h : Reads w w.heap.size 1 A 1 [.int .i64 5]) : Calls Try.prog 13 #[.int .i64 100, .slice A 1 1] w (Wrt w w.heap.size [5]) := by
  have e := StreamPutInt_calls w A 1 100 [5] h (by omega) (by omega) (by simp) (by simp)
  exact e

set_option maxHeartbeats 4000000 in
set_option maxRecDepth 100000 in
theorem FnStreamPutInt_walk (w : World) (A : Option Addr) (c : Nat) (b : Int) (l : List Int) (h : Reads w w.heap.size 1 A l.length (l.map (Value.int .i64))) (hl : ∀ x ∈ l, -9223372036854775808 ≤ x ∧ x ≤ 9223372036854775807) :
    Calls Try.prog 6 #[.int .i64 b, .slice A l.length c] w fun e w' => e = .returned (.bool true) ∧ Below w.heap.size w w' := by
  have H := Lib.hid h
  have HL := Lib.hid hl
  clear h hl
  by_cases hz : 2147483647 < l.length
  · have hd : decide ((2147483647 : Int) < (l.length : Int)) = true := by simp; omega
    go_enter Try.func6, Try.ntmps6
    go_wp2
    go_ret
    exact ⟨rfl, Below.refl _ _⟩
  have hd : decide ((2147483647 : Int) < (l.length : Int)) = false := by simp; omega
  by_cases hb : b < 18 ∨ 65536 < b
  · have HB := Lib.hid hb
    clear hb
    go_enter Try.func6, Try.ntmps6
    go_wp2_with (first
      | (go_at_call 13
         go_must (
           (refine (StreamPutInt_awake _ _ (by simpa using reads_one w (.int .i64 5) 2)).mono ?_)
           rintro e w1 ⟨A1, c1, rfl, hr1, hc1, hm1, hbel1⟩
           have HBEL1 := Lib.hid hbel1
           clear hr1 hbel1))
      | (go_at_call 8
         go_must (
           (refine (buffers_no _ b HB.out).mono ?_)
           rintro e w' ⟨rfl, rfl⟩)))
    go_ret
    exact ⟨rfl, ((Below.refl _ w).alloc (Nat.le_refl _) _).trans (HBEL1.out.mono (by simp))⟩
  have hb0 : 18 ≤ b := by omega
  have hb1 : b ≤ 65536 := by omega
  clear hb
  by_cases hn : 100 < l.length
  · have hd2 : decide ((100 : Int) < (l.length : Int)) = true := by simp; omega
    go_enter Try.func6, Try.ntmps6
    go_wp2_with (first
      | (go_at_call 13
         go_must (
           (refine (StreamPutInt_awake _ _ (by simpa using reads_one w (.int .i64 5) 2)).mono ?_)
           rintro e w1 ⟨A1, c1, rfl, hr1, hc1, hm1, hbel1⟩
           have HBEL1 := Lib.hid hbel1
           clear hr1 hbel1))
      | (go_at_call 8
         go_must (
           (refine (buffers_yes _ b hb0 hb1).mono ?_)
           rintro e w' ⟨rfl, rfl⟩)))
    go_ret
    exact ⟨rfl, ((Below.refl _ w).alloc (Nat.le_refl _) _).trans (HBEL1.out.mono (by simp))⟩
  have hd2 : decide ((100 : Int) < (l.length : Int)) = false := by simp; omega
  obtain ⟨i0, hi0, hz0, hz1, hz2⟩ := info_parts infoPack
  go_enter Try.func6, Try.ntmps6
  go_wp2_with (first
    | (go_at_call 13
       go_must (
         (refine (StreamPutInt_awake _ _ (by simpa using reads_one w (.int .i64 5) 2)).mono ?_)
         rintro e w1 ⟨A1, c1, rfl, hr1, hc1, hm1, hbel1⟩
         have HBEL1 : Hid (Below w.heap.size w w1) := ((Below.refl _ w).alloc (Nat.le_refl _) _).trans (hbel1.mono (by simp))
         clear hr1 hbel1))
    | (go_at_call 8
       go_must (
         (refine (buffers_yes _ b hb0 hb1).mono ?_)
         rintro e w' ⟨rfl, rfl⟩)))
  go_loopw [8, 38] (fun d i wr => ∃ k A' c', k ≤ l.length ∧ i = .int .i64 (k : Nat) ∧ d = .slice A' k c' ∧ Hid (wr.ownsRow w.heap.size 31 5 (.slice A' k c') k ((l.take k).flatMap fun x => c5 (2) (IntKind.u64.wrap x)) ∧ Below w.heap.size w wr)) (fun _ i _ => l.length - (intOf i).toNat)
  case atStart => exact ⟨0, none, 0, Nat.zero_le _, rfl, rfl, ⟨by simp, .inl ⟨rfl, rfl⟩⟩, HBEL1.out⟩
  case round =>
    obtain ⟨k, A', c', hk, rfl, rfl, hrest⟩ := hrel
    by_cases hlt : k < l.length
    · obtain ⟨ad, hA, hadB, hcell0⟩ := H.out.num hlt
      subst hA
      have hcell : wr.cell? (ad.add k) = some (.int .i64 (l.getD k 0)) := (hrest.out.2.cell (by rw [block_of_add]; exact hadB)).trans hcell0
      have hu := HL.out (l.getD k 0) (by rw [List.getD_eq_getElem?_getD, List.getElem?_eq_getElem hlt]; exact List.getElem_mem hlt)
      have hsn : (l.take (k + 1)).flatMap (fun x => c5 (2) (IntKind.u64.wrap x)) = (l.take k).flatMap (fun x => c5 (2) (IntKind.u64.wrap x)) ++ (fun x => c5 (2) (IntKind.u64.wrap x)) (l.getD k 0) := by
        rw [List.take_succ_eq_append_getElem hlt, List.flatMap_append, List.getD_eq_getElem?_getD, List.getElem?_eq_getElem hlt]; simp
      obtain ⟨hu0, hu1⟩ := hu
      generalize l.getD k 0 = u at *
      have HSN := Lib.hid hsn
      clear hcell0 hsn
      have hwz : w.heap.size ≤ wr.heap.size := hrest.out.2.size
      go_wp2_with (
        (at_builtin)
        go_must (
          (refine wpList_append_any _ rfl (.tmp 42) (.tmp 46) 28 rfl w.heap.size 31 i0 _ 5 64 Try.underlying28 hi0 hz0 hz1 hz2 rfl (by omega) (.slice A' k c') k _ rfl (hrest.out.1.alloc _) (wr.heap.size + 1) _ 1 1 (c5 (2) (IntKind.u64.wrap u)) rfl (reads_five _ _ _ _) (c5_one _ _) (by simp only [maxLen]; omega) (by omega) (by simp; omega) ?_)
          intro v1 w1' hown1 hg1 hat1
          obtain ⟨A1', c1', rfl, _, _⟩ := own_form5 hown1
          have HO1 := Lib.hid hown1
          have HG1 := Lib.hid hg1
          clear hown1 hg1 hat1))
      go_roundw
      case rel =>
        refine ⟨k + 1, A1', c1', by omega, by go_num, rfl, ?_, ?_⟩
        · rw [HSN.out]; exact HO1.out
        · refine (hrest.out.2.alloc hwz _).grown HG1.out (by simp; omega) (fun j hj => (hrest.out.1.lt j hj).1)
      case measure => simp [intOf]; omega
    · obtain rfl : k = l.length := by omega
      have HOW := Lib.hid hrest.out.1
      have HBR := Lib.hid hrest.out.2
      clear hrest
      go_wp2_with (first
        | (go_at_call 13
           go_must (
             (refine (StreamPutInt_calls wr A c b l ((H.out.below HBR.out).more HBR.out.size) hb0 hb1 HL.out (by omega)).mono ?_)
             rintro e w2 ⟨A2, c2, rfl, hr2, hc2, hm2, hbel2⟩
             obtain ⟨N2, hN2⟩ : ∃ N2, N2 = (l.flatMap encI).length := ⟨_, rfl⟩
             rw [← hN2]
             have HN2 := Lib.hid hN2
             have HR2 := Lib.hid hr2
             have HC2 := Lib.hid hc2
             have HBEL2 := Lib.hid hbel2
             clear hr2 hc2 hbel2 hN2))
        | (go_at_call 9
           go_must (
             (have hw := (wants_own (wk := fun x => 2) (wu := fun x => IntKind.u64.wrap x) (by have := HOW.out; rw [List.take_length] at this; exact this)).below HBEL2.out)
             have hio := inOrder_calls w2 w2.heap.size c2 c' A2 A' l encI (fun x => 2) (fun x => IntKind.u64.wrap x) (fun x => if 0 ≤ x then 3 else 2) (fun x => if 0 ≤ x then x else x + 18446744073709551616) HR2.out (Nat.le_refl _) HC2.out hm2 (wants_more hw HBEL2.out.size) (by omega) (fun x _ => isB_encI x) (fun x hx rest hrest W A c h1 h2 h3 h4 => takeR_encI x (HL.out x hx).1 (HL.out x hx).2 rest hrest W _ c A h1 h2 h3 h4) (fun x hx W => sameInt x (HL.out x hx).1 (HL.out x hx).2 W)
             rw [← HN2.out] at hio
             refine hio.mono ?_
             rintro e w3 ⟨rfl, hbel3⟩
             have HBEL3 := Lib.hid hbel3
             clear hbel3)))
      go_ret
      have z1 := HBR.out.size
      have z2 := HBEL2.out.size
      exact ⟨rfl, (HBR.out.trans (HBEL2.out.mono z1)).trans (HBEL3.out.mono (by omega))⟩

end Go.Proofs.Ytohainhkplombaa
