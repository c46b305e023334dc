/- spec.PutPack over a tree; spec.PackFits. PRINTED by wip/genpo.py. -/
import Derived.Test.YtlpnaifagiddlaaDoorPn
import Derived.Test.YtlpnaifagiddlaaDoorPj
namespace Go.Proofs.YtlpnaifagiddlaaDoor
open Go.RowKit
set_option linter.unusedVariables false

theorem putH_mono {gf : Nat} {sh : Bool} {F G : List Int → Prop} {W : World} {e : Ending} {W' : World} (h : PutH gf sh F W e W') (hF : ∀ enc, F enc → G enc) : PutH gf sh G W e W' := by
  obtain ⟨enc, A, c, st, he, hf, r⟩ := h
  exact ⟨enc, A, c, st, he, hF enc hf, r⟩
theorem headX_bin {m : Int} {hd : List Int} (h : HeadX m (-1) 0 [(196, 1), (197, 2), (198, 4)] hd) : ∃ b r, hd = b :: r ∧ OtherB 7 b := by
  rcases h with ⟨h0, _, _⟩ | ⟨p, hp, _, rfl⟩
  · omega
  · simp only [List.mem_cons, List.not_mem_nil, or_false] at hp
    rcases hp with rfl | rfl | rfl
    all_goals exact ⟨_, _, rfl, (fun _ => by omega), (by omega), (by omega), (by omega)⟩
theorem Fits.open_ {k u x lv : Int} {s : ByteArray} {n : Nat} {f : Nat → PT} (h : Fits (.mk k u s x n f) lv) : (PT.mk k u s x n f).ok lv ∧ ∀ i, i < n → Fits (f i) (lv - 1) := h
set_option maxHeartbeats 4000000 in
theorem PutPack_calls (B : Nat) : ∀ (T : PT) (W : World) (gf : Nat) (st : Int) (sh : Bool) (A : Option Addr) (c : Nat) (lv : Int), TR W B T A c → Fits T lv → T.cnt ≤ 500 → B ≤ W.heap.size → B ≤ gf → Blk W gf 62 [.int .u64 st, .bool sh] →
    Calls Tryd.prog 29 #[vP T A c, .pointer (some ⟨gf, 0, none⟩)] W (PutH gf sh (FP T) W)
  | .nil, W, gf, st, sh, A, c, lv, h, hfit, hct, hB, hgf, hb => h.elim
  | .mk k u s x n f, W, gf, st, sh, A, c, lv, h, hfit, hct, hB, hgf, hb => by
    obtain ⟨hok, hkf⟩ := hfit.open_
    have hct2 := hct
    rw [PT.cnt_eq] at hct2
    simp only [PT.kid, PT.n] at hct2
    have ih2 : ∀ (i : Nat), i < n → ∀ (W3 : World) (st3 : Int) (Ai : Option Addr) (ci : Nat), TR W3 B (f i) Ai ci → B ≤ W3.heap.size → Blk W3 gf 62 [.int .u64 st3, .bool sh] → Calls Tryd.prog 29 #[vP (f i) Ai ci, .pointer (some ⟨gf, 0, none⟩)] W3 (PutH gf sh (FP (f i)) W3) := fun i hi W3 st3 Ai ci h3 h4 h5 => by
      have hci : (f i).cnt ≤ 500 := by
        have h6 := sumN_le (fun i => (f i).cnt) (show i + 1 ≤ n by omega)
        have h7 : sumN (fun i => (f i).cnt) (i + 1) = sumN (fun i => (f i).cnt) i + (f i).cnt := rfl
        omega
      exact PutPack_calls B (f i) W3 gf st3 sh Ai ci (lv - 1) h3 (hkf i hi) hci h4 hgf h5
    obtain ⟨hl, hk0, hk10, _, _, _, _, _, _, hk1, hk4, hk9, hn2, hss⟩ := hok
    obtain ⟨⟨_, _, hu0, hu1, _, _, _⟩, _, _, _⟩ := h.open_
    simp only [PT.k, PT.u, PT.n, PT.s] at hk0 hk10 hk1 hn2 hss hu0 hu1
    have hcp := cnt_pos (.mk k u s x n f)
    unfold vP
    simp only [PT.k, PT.u, PT.s, PT.x, PT.n]
    have hkc : k = 0 ∨ k = 1 ∨ k = 2 ∨ k = 3 ∨ k = 4 ∨ k = 5 ∨ k = 6 ∨ k = 7 ∨ k = 8 ∨ k = 9 ∨ k = 10 := by omega
    rcases hkc with rfl | rfl | rfl | rfl | rfl | rfl | rfl | rfl | rfl | rfl | rfl
    · refine (PP_nil W gf st u x sh s n c A hb).mono fun _ _ h => putH_mono h fun enc he => ?_
      subst he
      exact ⟨⟨fun _ => rfl, (by intro e; exact absurd (show (0 : Int) = 1 from e) (by decide)), (by intro e; exact absurd (show (0 : Int) = 2 from e) (by decide)), (by intro e; exact absurd (show (0 : Int) = 3 from e) (by decide)), (by intro e; exact absurd (show (0 : Int) = 4 from e) (by decide)), (by intro e; exact absurd (show (0 : Int) = 5 from e) (by decide)), (by intro e; exact absurd (show (0 : Int) = 6 from e) (by decide)), (by intro e; exact absurd (show (7 : Int) ≤ 0 from e) (by decide))⟩, by simp, by simp; omega⟩
    · refine (PP_bool W gf st u x sh s n c A hu0 (hk1 rfl) hb).mono fun _ _ h => putH_mono h fun enc he => ?_
      subst he
      exact ⟨⟨(by intro e; exact absurd (show (1 : Int) = 0 from e) (by decide)), fun _ => rfl, (by intro e; exact absurd (show (1 : Int) = 2 from e) (by decide)), (by intro e; exact absurd (show (1 : Int) = 3 from e) (by decide)), (by intro e; exact absurd (show (1 : Int) = 4 from e) (by decide)), (by intro e; exact absurd (show (1 : Int) = 5 from e) (by decide)), (by intro e; exact absurd (show (1 : Int) = 6 from e) (by decide)), (by intro e; exact absurd (show (7 : Int) ≤ 1 from e) (by decide))⟩, by simp, by simp; omega⟩
    · by_cases hn : u < 9223372036854775808
      · refine (PP_pos W gf st u x sh s n c A u rfl hu0 hn hb).mono fun _ _ h => putH_mono h fun enc he => ?_
        have hw : wrap64 u = u := by unfold wrap64; omega
        exact ⟨⟨(by intro e; exact absurd (show (2 : Int) = 0 from e) (by decide)), (by intro e; exact absurd (show (2 : Int) = 1 from e) (by decide)), fun _ => (by show IntF (wrap64 u) enc; rw [hw]; exact he), (by intro e; exact absurd (show (2 : Int) = 3 from e) (by decide)), (by intro e; exact absurd (show (2 : Int) = 4 from e) (by decide)), (by intro e; exact absurd (show (2 : Int) = 5 from e) (by decide)), (by intro e; exact absurd (show (2 : Int) = 6 from e) (by decide)), (by intro e; exact absurd (show (7 : Int) ≤ 2 from e) (by decide))⟩, (intF_len he).1, by have := (intF_len he).2; omega⟩
      · refine (PP_neg W gf st u x sh s n c A (u - 18446744073709551616) (by omega) (by omega) (by omega) hb).mono fun _ _ h => putH_mono h fun enc he => ?_
        have hw : wrap64 u = u - 18446744073709551616 := by unfold wrap64; omega
        exact ⟨⟨(by intro e; exact absurd (show (2 : Int) = 0 from e) (by decide)), (by intro e; exact absurd (show (2 : Int) = 1 from e) (by decide)), fun _ => (by show IntF (wrap64 u) enc; rw [hw]; exact he), (by intro e; exact absurd (show (2 : Int) = 3 from e) (by decide)), (by intro e; exact absurd (show (2 : Int) = 4 from e) (by decide)), (by intro e; exact absurd (show (2 : Int) = 5 from e) (by decide)), (by intro e; exact absurd (show (2 : Int) = 6 from e) (by decide)), (by intro e; exact absurd (show (7 : Int) ≤ 2 from e) (by decide))⟩, (intF_len he).1, by have := (intF_len he).2; omega⟩
    · refine (PP_uint W gf st u x sh s n c A u rfl hu0 hu1 hb).mono fun _ _ h => putH_mono h fun enc he => ?_
      exact ⟨⟨(by intro e; exact absurd (show (3 : Int) = 0 from e) (by decide)), (by intro e; exact absurd (show (3 : Int) = 1 from e) (by decide)), (by intro e; exact absurd (show (3 : Int) = 2 from e) (by decide)), fun _ => he, (by intro e; exact absurd (show (3 : Int) = 4 from e) (by decide)), (by intro e; exact absurd (show (3 : Int) = 5 from e) (by decide)), (by intro e; exact absurd (show (3 : Int) = 6 from e) (by decide)), (by intro e; exact absurd (show (7 : Int) ≤ 3 from e) (by decide))⟩, (intF_len he).1, by have := (intF_len he).2; omega⟩
    · refine (PP_f32 W gf st u x sh s n c A hu0 hu1 hb).mono fun _ _ h => putH_mono h fun enc he => ?_
      subst he
      exact ⟨⟨(by intro e; exact absurd (show (4 : Int) = 0 from e) (by decide)), (by intro e; exact absurd (show (4 : Int) = 1 from e) (by decide)), (by intro e; exact absurd (show (4 : Int) = 2 from e) (by decide)), (by intro e; exact absurd (show (4 : Int) = 3 from e) (by decide)), fun _ => rfl, (by intro e; exact absurd (show (4 : Int) = 5 from e) (by decide)), (by intro e; exact absurd (show (4 : Int) = 6 from e) (by decide)), (by intro e; exact absurd (show (7 : Int) ≤ 4 from e) (by decide))⟩, by simp, by rw [List.length_cons, be_length]; omega⟩
    · refine (PP_f64 W gf st u x sh s n c A hu0 hu1 hb).mono fun _ _ h => putH_mono h fun enc he => ?_
      subst he
      exact ⟨⟨(by intro e; exact absurd (show (5 : Int) = 0 from e) (by decide)), (by intro e; exact absurd (show (5 : Int) = 1 from e) (by decide)), (by intro e; exact absurd (show (5 : Int) = 2 from e) (by decide)), (by intro e; exact absurd (show (5 : Int) = 3 from e) (by decide)), (by intro e; exact absurd (show (5 : Int) = 4 from e) (by decide)), fun _ => rfl, (by intro e; exact absurd (show (5 : Int) = 6 from e) (by decide)), (by intro e; exact absurd (show (7 : Int) ≤ 5 from e) (by decide))⟩, by simp, by rw [List.length_cons, be_length]; omega⟩
    · refine (PP_text W gf st u x sh s n c A hss hb).mono fun _ _ h => putH_mono h fun enc he => ?_
      obtain ⟨hd, hh, rfl⟩ := he
      obtain ⟨h5, h6⟩ := headX_len hh (by simp)
      exact ⟨⟨(by intro e; exact absurd (show (6 : Int) = 0 from e) (by decide)), (by intro e; exact absurd (show (6 : Int) = 1 from e) (by decide)), (by intro e; exact absurd (show (6 : Int) = 2 from e) (by decide)), (by intro e; exact absurd (show (6 : Int) = 3 from e) (by decide)), (by intro e; exact absurd (show (6 : Int) = 4 from e) (by decide)), (by intro e; exact absurd (show (6 : Int) = 5 from e) (by decide)), fun _ => ⟨hd, hh, rfl⟩, (by intro e; exact absurd (show (7 : Int) ≤ 6 from e) (by decide))⟩, by rw [List.length_append]; omega, by rw [List.length_append, numsS_length]; omega⟩
    · refine (PP_bin W gf st u x sh s n c A hss hb).mono fun _ _ h => putH_mono h fun enc he => ?_
      obtain ⟨hd, hh, rfl⟩ := he
      obtain ⟨h5, h6⟩ := headX_len hh (by simp)
      obtain ⟨b, r, rfl, ho⟩ := headX_bin hh
      exact ⟨⟨(by intro e; exact absurd (show (7 : Int) = 0 from e) (by decide)), (by intro e; exact absurd (show (7 : Int) = 1 from e) (by decide)), (by intro e; exact absurd (show (7 : Int) = 2 from e) (by decide)), (by intro e; exact absurd (show (7 : Int) = 3 from e) (by decide)), (by intro e; exact absurd (show (7 : Int) = 4 from e) (by decide)), (by intro e; exact absurd (show (7 : Int) = 5 from e) (by decide)), (by intro e; exact absurd (show (7 : Int) = 6 from e) (by decide)), fun _ => ⟨b, r ++ numsS s, rfl, ho⟩⟩, by rw [List.length_append]; omega, by rw [List.length_append, numsS_length]; omega⟩
    · exact PP_arr B W gf st u x sh s n c A f h hB hgf hb hn2 hct ih2
    · exact PP_map B W gf st u x sh s n c A f h hB hgf hb hn2 hct ih2
    · refine (PP_ext W gf st u x sh s n c A hss hb).mono fun _ _ h => putH_mono h fun enc he => ?_
      obtain ⟨hd, ⟨⟨b, r, rfl, ho⟩, h6⟩, rfl⟩ := he
      exact ⟨⟨(by intro e; exact absurd (show (10 : Int) = 0 from e) (by decide)), (by intro e; exact absurd (show (10 : Int) = 1 from e) (by decide)), (by intro e; exact absurd (show (10 : Int) = 2 from e) (by decide)), (by intro e; exact absurd (show (10 : Int) = 3 from e) (by decide)), (by intro e; exact absurd (show (10 : Int) = 4 from e) (by decide)), (by intro e; exact absurd (show (10 : Int) = 5 from e) (by decide)), (by intro e; exact absurd (show (10 : Int) = 6 from e) (by decide)), fun _ => ⟨b, r ++ numsS s, rfl, ho⟩⟩, by simp, by rw [List.length_append, numsS_length]; omega⟩

/-- PackFits at six levels. -/
def PFits (T : PT) (lv : Int) (w : World) (e : Ending) (w' : World) : Prop := ∃ b : Bool, e = .returned (.bool b) ∧ (b = true → Fits T lv ∧ T.cnt ≤ 2000) ∧ Below w.heap.size w w'
set_option maxHeartbeats 4000000 in
set_option maxRecDepth 100000 in
theorem PackFits_calls (T : PT) (W : World) (A : Option Addr) (c : Nat) (lv : Int) (h : TR W W.heap.size T A c) (hl : lv ≤ 100) :
    Calls Tryd.prog 27 #[vP T A c, .int .i64 lv] W (PFits T lv W) := by
  obtain ⟨w1, hw1⟩ : ∃ w1, w1 = (W.alloc (.cells #[.int .i64 T.k, .int .u64 T.u, .string T.s, .int .i64 T.x, .slice A T.n c] 25)).alloc (.cells #[.int .i64 2000] 3) := ⟨_, rfl⟩
  have hz : w1.heap.size = W.heap.size + 1 + 1 := by rw [hw1]; simp
  have hb1 : Blk w1 (W.heap.size + 1) 3 [.int .i64 2000] := by
    rw [hw1]
    have := Blk.new (W.alloc (.cells #[.int .i64 T.k, .int .u64 T.u, .string T.s, .int .i64 T.x, .slice A T.n c] 25)) 3 [.int .i64 2000]
    rwa [show (W.alloc (.cells #[.int .i64 T.k, .int .u64 T.u, .string T.s, .int .i64 T.x, .slice A T.n c] 25)).heap.size = W.heap.size + 1 by simp] at this
  have hp1 : Blk w1 W.heap.size 25 [.int .i64 T.k, .int .u64 T.u, .string T.s, .int .i64 T.x, .slice A T.n c] := by rw [hw1]; exact (Blk.new W _ [_, _, _, _, _]).alloc _
  have hbel : Below W.heap.size W w1 := by rw [hw1]; exact ((Below.refl _ W).alloc (Nat.le_refl _) _).alloc (by simp) _
  have hfw := fewPacks_calls W.heap.size T w1 (W.heap.size + 1) 2000 A c (TR.below hbel _ _ _ h) hbel.size (by omega) hb1 (by omega) (by omega)
  unfold vP at hfw ⊢
  have HFW := Lib.hid hfw
  have HW1 := Lib.hid hw1
  have HP1 := Lib.hid hp1
  have HBEL := Lib.hid hbel
  have HT := Lib.hid h
  clear hw1 hz hb1 hp1 hbel hfw h
  have hfit := fun W3 h3 h4 => packFits_calls W.heap.size T W3 A c lv (TR.below h3 _ _ _ HT.out) h4 hl
  unfold vP at hfit
  have HFIT := Lib.hid hfit
  clear hfit
  rw [HW1.out] at HFW
  go_enter Tryd.func27, Tryd.ntmps27
  go_wp2_with (first
    | (go_at_call 41
       go_must (
         (refine HFW.out.mono ?_)
         rintro e w3 ⟨b, L', rfl, hb3, hL3, hg3⟩
         rw [← HW1.out] at hg3
         have hp3 := HP1.out.grown hg3 (by intro e; injection e with e; omega)
         obtain ⟨r0, r1, r2, r3, r4⟩ := blk_cells5 hp3
         have hbel3 : Below W.heap.size W w3 := HBEL.out.grown hg3 HBEL.out.size (fun j hj => by injection hj with hj; omega)
         have HL3 := Lib.hid hL3
         have HBEL3 := Lib.hid hbel3
         clear hb3 hL3 hg3 hp3 hbel3))
    | (go_at_call 42
       go_must (
         (refine (HFIT.out _ HBEL3.out HBEL3.out.size).mono ?_)
         rintro e w4 ⟨b4, rfl, hf4, hb4⟩
         have HF4 := Lib.hid hf4
         have HB4 := Lib.hid (HBEL3.out.trans (hb4.mono HBEL3.out.size))
         clear hf4 hb4)))
  all_goals
    go_ret
    first
      | exact ⟨false, rfl, (by intro h; cases h), HBEL3.out⟩
      | (refine ⟨b4, rfl, fun h => ⟨HF4.out h, ?_⟩, HB4.out⟩
         have := HL3.out (by first | rfl | assumption)
         omega)
end Go.Proofs.YtlpnaifagiddlaaDoor
