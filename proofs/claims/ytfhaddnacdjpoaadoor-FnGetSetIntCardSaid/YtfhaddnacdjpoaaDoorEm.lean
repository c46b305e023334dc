/- spec.PutPack at arrays and maps, each value in it by a form of its own. PRINTED by wip/genem.py. -/
import Derived.Test.YtfhaddnacdjpoaaDoorPl
namespace Go.Proofs.YtfhaddnacdjpoaaDoor
open Go.RowKit
set_option linter.unusedVariables false

/-- The first n of a row of texts, one behind the other. -/
def catN (es : Nat → List Int) : Nat → List Int
  | 0 => []
  | n + 1 => catN es n ++ es n
theorem catN_congr {es es' : Nat → List Int} : ∀ n, (∀ i, i < n → es i = es' i) → catN es n = catN es' n
  | 0, _ => rfl
  | n + 1, h => by rw [catN, catN, catN_congr n (fun i hi => h i (by omega)), h n (by omega)]
/-- The grammar of an array, or of a map: its head, and the values. -/
def KidsF (m fixed : Int) (fs : List (Int × Nat)) (n : Nat) (G : Nat → List Int → Prop) (enc : List Int) : Prop :=
  ∃ (hd : List Int) (es : Nat → List Int), HeadX m fixed 16 fs hd ∧ enc = hd ++ catN es n ∧ ∀ i, i < n → G i (es i)
theorem KidsF.more {m fixed : Int} {fs : List (Int × Nat)} {n : Nat} {G : Nat → List Int → Prop} {d e : List Int} (h : KidsF m fixed fs n G d) (he : G n e) : KidsF m fixed fs (n + 1) G (d ++ e) := by
  obtain ⟨hd, es, h1, h2, h3⟩ := h
  refine ⟨hd, fun i => if i = n then e else es i, h1, ?_, fun i hi => ?_⟩
  · rw [catN, catN_congr (es' := es) n (fun i hi => if_neg (by omega)), if_pos rfl, h2, List.append_assoc]
  · by_cases hin : i = n
    · subst hin
      show G i (if i = i then e else es i)
      rw [if_pos rfl]; exact he
    · show G i (if i = n then e else es i)
      rw [if_neg hin]; exact h3 i (by omega)
theorem headX_other8 {M : Nat} {enc : List Int} (h : HeadX M 144 16 [(220, 2), (221, 4)] enc) (hM : M ≤ 2000) : ∃ b r, enc = b :: r ∧ OtherB 8 b := by
  rcases h with ⟨_, h1, rfl⟩ | ⟨p, hp, _, rfl⟩
  · exact ⟨_, [], rfl, (by omega), (fun _ => .inl (by omega)), (by omega), (by omega)⟩
  · simp only [List.mem_cons, List.not_mem_nil, or_false] at hp
    rcases hp with rfl | rfl
    · exact ⟨_, _, rfl, (by omega), (fun _ => .inr (.inl rfl)), (by omega), (by omega)⟩
    · exact ⟨_, _, rfl, (by omega), (fun _ => .inr (.inr rfl)), (by omega), (by omega)⟩
theorem headX_other9 {M : Nat} {enc : List Int} (h : HeadX M 128 16 [(222, 2), (223, 4)] enc) (hM : M ≤ 2000) : ∃ b r, enc = b :: r ∧ OtherB 9 b := by
  rcases h with ⟨_, h1, rfl⟩ | ⟨p, hp, _, rfl⟩
  · exact ⟨_, [], rfl, (by omega), (by omega), (fun _ => .inl (by omega)), (by omega)⟩
  · simp only [List.mem_cons, List.not_mem_nil, or_false] at hp
    rcases hp with rfl | rfl
    · exact ⟨_, _, rfl, (by omega), (by omega), (fun _ => .inr (.inl rfl)), (by omega)⟩
    · exact ⟨_, _, rfl, (by omega), (by omega), (fun _ => .inr (.inr rfl)), (by omega)⟩

set_option maxHeartbeats 4000000 in
set_option maxRecDepth 100000 in
theorem PP_arr (B : Nat) (W : World) (gf : Nat) (st u x : Int) (sh : Bool) (s : ByteArray) (n c : Nat) (A : Option Addr) (f : Nat → PT) (G : Nat → List Int → Prop) (h : TR W B (.mk 8 u s x n f) A c) (hB : B ≤ W.heap.size) (hgf : B ≤ gf) (hb : Blk W gf 34 [.int .u64 st, .bool sh]) (hn : n ≤ 2000) (hct : (PT.mk 8 u s x n f).cnt ≤ 500)
    (ih : ∀ (i : Nat), i < n → ∀ (W3 : World) (st3 : Int) (Ai : Option Addr) (ci : Nat), TR W3 B (f i) Ai ci → B ≤ W3.heap.size → Blk W3 gf 34 [.int .u64 st3, .bool sh] → Calls Tryd.prog 7 #[vP (f i) Ai ci, .pointer (some ⟨gf, 0, none⟩)] W3 (PutH gf sh (fun enc => FP (f i) enc ∧ G i enc) W3)) :
    Calls Tryd.prog 7 #[.agg #[.int .i64 8, .int .u64 u, .string s, .int .i64 x, .slice A n c], .pointer (some ⟨gf, 0, none⟩)] W (PutH gf sh (fun enc => FP (.mk 8 u s x n f) enc ∧ KidsF ((n : Nat) : Int) 144 [(220, 2), (221, 4)] n G enc) W) := by
  obtain ⟨hwf, hnc, hcm, hkids⟩ := h.open_
  rw [PT.cnt_eq] at hct
  simp only [PT.kid, PT.n] at hct hnc
  obtain ⟨i0, hi0, hz0, hz1, hz2⟩ := info_parts infoU8
  have HKIDS := Lib.hid hkids
  have HIH := Lib.hid ih
  obtain ⟨w1, hw1⟩ : ∃ w1, w1 = W.alloc (.cells #[.int .i64 8, .int .u64 u, .string s, .int .i64 x, .slice A n c] 30) := ⟨_, rfl⟩
  have hz : w1.heap.size = W.heap.size + 1 := by rw [hw1]; simp
  have hb1 : Blk w1 gf 34 [.int .u64 st, .bool sh] := by rw [hw1]; exact hb.alloc _
  have hp1 : Blk w1 W.heap.size 30 [.int .i64 8, .int .u64 u, .string s, .int .i64 x, .slice A n c] := by rw [hw1]; exact Blk.new W _ [_, _, _, _, _]
  have hg0 : W.grownBy w1 (some gf) := by rw [hw1]; exact World.grownBy_alloc _ _ _
  have hok : 0 < (([(220, 2), (221, 4)] : List (Int × Nat)).filter (okF ((n : Nat) : Int))).length := by
    apply List.length_pos_of_mem (a := (221, 4))
    refine List.mem_filter.2 ⟨by simp, ?_⟩
    simp only [okF, Bool.or_eq_true, decide_eq_true_eq]
    right
    have : (2 : Int) ^ (8 * 4) = 4294967296 := by decide
    rw [this]
    omega
  have hwt : WantsF (w1.alloc (.cells #[.int .i64 220, .int .i64 2, .int .i64 221, .int .i64 4] 62)) (w1.alloc (.cells #[.int .i64 220, .int .i64 2, .int .i64 221, .int .i64 4] 62)).heap.size (some ⟨W.heap.size + 1, 0, none⟩) [(220, 2), (221, 4)] := by
    have := (wantsF_lit w1 [(220, 2), (221, 4)]).more (show w1.heap.size + 1 ≤ (w1.alloc (.cells #[.int .i64 220, .int .i64 2, .int .i64 221, .int .i64 4] 62)).heap.size by simp)
    rw [hz] at this
    exact this
  have hcall := putHead_any (w1.alloc (.cells #[.int .i64 220, .int .i64 2, .int .i64 221, .int .i64 4] 62)) gf 2 n st 144 16 sh (some ⟨W.heap.size + 1, 0, none⟩) [(220, 2), (221, 4)] (hb1.alloc _) (by omega) hwt (by simp) (by simp) (.inr ⟨by omega, by omega, by omega, orP144⟩) hok
  have q4 := hp1.cell 4
  simp only [List.getElem?_cons_zero, List.getElem?_cons_succ] at q4
  have hne : W.heap.size ≠ gf := hp1.ne_ hb1 (by decide)
  have HP1 := Lib.hid hp1
  have HC1 := Lib.hid hcall
  have HW1 := Lib.hid hw1
  have HG0 := Lib.hid hg0
  have HZ := Lib.hid hz
  have HWF := Lib.hid hwf
  clear hb hb1 hp1 hw1 hg0 hok hwt hcall hz h hkids ih hwf
  rw [HW1.out] at q4
  go_enter Tryd.func7, Tryd.ntmps7
  go_wp2_with (
    (go_at_call 23)
    go_must (
      (rw [← HW1.out])
      refine HC1.out.mono ?_
      rintro e w3 ⟨enc, A3, c3, st3, rfl, hf3, hown3, hb3, hg3⟩
      have hp3 : Blk w3 W.heap.size 30 _ := (HP1.out.alloc _).grown hg3 (fun e => hne (by injection e))
      have hgr3 : W.grownBy w3 (some gf) := grownP_trans HG0.out (grownP_trans (World.grownBy_alloc w1 (.cells #[.int .i64 220, .int .i64 2, .int .i64 221, .int .i64 4] 62) _) hg3)
      have hol3 := own_lower (B' := W.heap.size) hown3 (by have := HZ.out; simp; omega)
      have hbr3 : ∃ b r, enc = b :: r ∧ OtherB 8 b := headX_other8 hf3 (by omega)
      have hkf3 : Hid (KidsF ((n : Nat) : Int) 144 [(220, 2), (221, 4)] 0 G enc) := ⟨enc, fun _ => [], hf3, (List.append_nil _).symm, fun i hi => absurd hi (by omega)⟩
      obtain ⟨hl0, hl5⟩ := headX_len hf3 (by simp)
      obtain ⟨N3, hN3⟩ : ∃ N3, N3 = enc.length := ⟨_, rfl⟩
      rw [← hN3] at hol3 hl0 hl5 ⊢
      have q43 := hp3.cell 4
      simp only [List.getElem?_cons_zero, List.getElem?_cons_succ] at q43
      have HST : Hid (∃ (d : List Int) (st' : Int), N3 = d.length ∧ ((∃ b r, d = b :: r ∧ OtherB 8 b) ∧ Hid (KidsF ((n : Nat) : Int) 144 [(220, 2), (221, 4)] 0 G d)) ∧ d.length ≤ 5 + 140000 * sumN (fun i => (f i).cnt) 0 ∧ w3.ownsRow W.heap.size 5 1 (.slice A3 N3 c3) N3 (bs d) ∧ Blk w3 gf 34 [.int .u64 st', .bool sh] ∧ W.grownBy w3 (some gf)) := ⟨enc, st3, hN3, ⟨hbr3, hkf3⟩, by omega, hol3, hb3, hgr3⟩
      clear hf3 hown3 hb3 hg3 hp3 hgr3 hol3 hbr3 hkf3 hN3 q4))
  clear q43
  go_loopw [5, 106] (fun v i wr => ∃ (m N c' : Nat) (A' : Option Addr), m ≤ n ∧ i = .int .i64 m ∧ v = .slice A' N c' ∧ N ≤ 71000000 ∧ Hid (∃ (d : List Int) (st' : Int), N = d.length ∧ ((∃ b r, d = b :: r ∧ OtherB 8 b) ∧ Hid (KidsF ((n : Nat) : Int) 144 [(220, 2), (221, 4)] m G d)) ∧ d.length ≤ 5 + 140000 * sumN (fun i => (f i).cnt) m ∧ wr.ownsRow W.heap.size 5 1 (.slice A' N c') N (bs d) ∧ Blk wr gf 34 [.int .u64 st', .bool sh] ∧ W.grownBy wr (some gf))) (fun _ i _ => n - (intOf i).toNat)
  case atStart => exact ⟨0, N3, c3, A3, Nat.zero_le _, rfl, rfl, by omega, HST⟩
  case round =>
    obtain ⟨m, N, c', A', hm, rfl, rfl, hNb, hrest⟩ := hrel
    obtain ⟨d, st4, hN, hbr, hdl, hown, hb4, hg4⟩ := hrest.out
    have HD := Lib.hid (And.intro hN (And.intro hbr hdl))
    have HOWN := Lib.hid hown
    have HB4 := Lib.hid hb4
    have HG4 := Lib.hid hg4
    have hwz : W.heap.size ≤ wr.heap.size := hg4.size
    clear hrest hN hbr hdl hown hb4 hg4 HST
    by_cases hlt : m < n
    · obtain ⟨g, o, hA, hgB, hk⟩ := HKIDS.out (show 0 < n by omega)
      obtain ⟨Ai, ci, c0, c1, c2, c3', c4, htk⟩ := hk m hlt
      have hbel : Below B W wr := below_of_grown HG4.out (fun j hj => by injection hj with hj; omega) hB
      have hce : ∀ q, wr.cell? ⟨g, q, none⟩ = W.cell? ⟨g, q, none⟩ := fun q => hbel.cell (p := ⟨g, q, none⟩) hgB
      have d0 := (hce _).trans c0
      have d1 := (hce _).trans c1
      have d2 := (hce _).trans c2
      have d3 := (hce _).trans c3'
      have d4 := (hce _).trans c4
      have hBw : B ≤ wr.heap.size := Nat.le_trans hB hwz
      have hcall := HIH.out m hlt (wr.alloc (.cells #[.int .i64 (f m).k, .int .u64 (f m).u, .string (f m).s, .int .i64 (f m).x, .slice Ai (f m).n ci] 30)) st4 Ai ci (TR.below (hbel.alloc hBw _) _ _ _ htk) (by simp; omega) (HB4.out.alloc _)
      unfold vP at hcall
      simp only [PT.kid] at d0 d1 d2 d3 d4
      have hsum : sumN (fun i => (f i).cnt) (m + 1) = sumN (fun i => (f i).cnt) m + (f m).cnt := rfl
      have hsle := sumN_le (fun i => (f i).cnt) (show m + 1 ≤ n by omega)
      subst hA
      have HC := Lib.hid hcall
      generalize f m = T at *
      have HSUM := Lib.hid (And.intro hsum hsle)
      have hTc : T.cnt ≤ 500 := by omega
      clear hk c0 c1 c2 c3' c4 htk hce hcall hsum hsle hbel
      go_wp2_with (first
        | (go_at_call 7
           go_must (
             (refine HC.out.mono ?_)
             rintro e w5 ⟨enc5, A5, c5, st5, rfl, hf5, hown5, hb5, hg5⟩
             have hg5' : wr.grownBy w5 (some gf) := grownP_trans (World.grownBy_alloc wr (.cells #[.int .i64 T.k, .int .u64 T.u, .string T.s, .int .i64 T.x, .slice Ai T.n ci] 30) _) hg5
             have hownr : w5.ownsRow W.heap.size 5 1 (.slice A' N c') N (bs d) := HOWN.out.kept hg5' (.inr (own_neP HOWN.out HB4.out (by decide)))
             obtain ⟨⟨_, hf50, hf51⟩, hg50⟩ := hf5
             have HG50 := Lib.hid hg50
             have hwz5 : W.heap.size ≤ w5.heap.size := Nat.le_trans hwz hg5'.size
             have hsm : N + enc5.length ≤ 71000000 := by
               have h1 := HD.out.1
               have h2 := HD.out.2.2
               have h3 := HSUM.out.1
               have h4 := HSUM.out.2
               omega
             have hrd5 := Reads.of_own hown5
             have HRD5 := Lib.hid hrd5
             have HOWN5 := Lib.hid hownr
             have HB5 := Lib.hid hb5
             have HG5 := Lib.hid (grownP_trans HG4.out hg5')
             clear hown5 hb5 hg5 hg5' hownr hrd5 hg50))
        | ((at_builtin)
           go_must (
             (refine wpList_append_any _ rfl (.tmp 110) (.tmp 113) 24 rfl W.heap.size 5 i0 _ 1 1 Tryd.underlying24 hi0 hz0 hz1 hz2 rfl (by omega) (.slice A' N c') N _ rfl HOWN5.out w5.heap.size A5 enc5.length c5 (bs enc5) rfl HRD5.out (bs_one _) (by simp only [maxLen]; omega) (by omega) hwz5 ?_)
             intro v1 w6 hown6 hg6 hat6
             obtain ⟨A6, c6, rfl⟩ := own_formP hown6
             rw [← bs_append] at hown6
             have hb6 := HB5.out.grown hg6 (fun e => own_neP HOWN5.out HB5.out (by decide) e.symm)
             have hgr6 := grownP_fresh HG5.out hg6 (fun j hj => (HOWN5.out.lt j hj).1)
             have HO6 := Lib.hid hown6
             have HB6 := Lib.hid hb6
             have HG6 := Lib.hid hgr6
             clear hown6 hg6 hat6 hb6 hgr6)))
      go_roundw
      case rel =>
        obtain ⟨hN, ⟨⟨b, r, hd, hob⟩, hkf⟩, hdl⟩ := HD.out
        refine ⟨m + 1, N + enc5.length, c6, A6, by omega, by go_num, rfl, hsm, d ++ enc5, st5, by rw [List.length_append, hN], ⟨⟨b, r ++ enc5, by rw [hd]; rfl, hob⟩, KidsF.more hkf.out HG50.out⟩, ?_, HO6.out, HB6.out, HG6.out⟩
        rw [List.length_append, HSUM.out.1]
        omega
      case measure => simp [intOf]; omega
    · obtain rfl : m = n := by omega
      go_wp2
      go_ret
      obtain ⟨hN, ⟨⟨b, r, hd, hob⟩, hkf⟩, hdl⟩ := HD.out
      subst hN
      refine ⟨d, A', c', st4, rfl, ⟨⟨⟨?_, ?_, ?_, ?_, ?_, ?_, ?_, fun _ => ⟨b, r, hd, hob⟩⟩, by rw [hd]; simp, ?_⟩, hkf.out⟩, HOWN.out, HB4.out, HG4.out⟩
      all_goals first
        | (intro e; exact absurd (show (8 : Int) = _ from e) (by decide))
        | (rw [PT.cnt_eq]; simp only [PT.kid, PT.n]; omega)

set_option maxHeartbeats 4000000 in
set_option maxRecDepth 100000 in
theorem PP_map (B : Nat) (W : World) (gf : Nat) (st u x : Int) (sh : Bool) (s : ByteArray) (n c : Nat) (A : Option Addr) (f : Nat → PT) (G : Nat → List Int → Prop) (h : TR W B (.mk 9 u s x n f) A c) (hB : B ≤ W.heap.size) (hgf : B ≤ gf) (hb : Blk W gf 34 [.int .u64 st, .bool sh]) (hn : n ≤ 2000) (hct : (PT.mk 9 u s x n f).cnt ≤ 500)
    (ih : ∀ (i : Nat), i < n → ∀ (W3 : World) (st3 : Int) (Ai : Option Addr) (ci : Nat), TR W3 B (f i) Ai ci → B ≤ W3.heap.size → Blk W3 gf 34 [.int .u64 st3, .bool sh] → Calls Tryd.prog 7 #[vP (f i) Ai ci, .pointer (some ⟨gf, 0, none⟩)] W3 (PutH gf sh (fun enc => FP (f i) enc ∧ G i enc) W3)) :
    Calls Tryd.prog 7 #[.agg #[.int .i64 9, .int .u64 u, .string s, .int .i64 x, .slice A n c], .pointer (some ⟨gf, 0, none⟩)] W (PutH gf sh (fun enc => FP (.mk 9 u s x n f) enc ∧ KidsF ((n / 2 : Nat) : Int) 128 [(222, 2), (223, 4)] n G enc) W) := by
  obtain ⟨hwf, hnc, hcm, hkids⟩ := h.open_
  rw [PT.cnt_eq] at hct
  simp only [PT.kid, PT.n] at hct hnc
  obtain ⟨i0, hi0, hz0, hz1, hz2⟩ := info_parts infoU8
  obtain ⟨M, hM⟩ : ∃ M : Nat, M = n / 2 := ⟨_, rfl⟩
  have hM2 : M ≤ 2000 := by omega
  have hq : (n : Int) / 2 = (M : Int) := by omega
  have HKIDS := Lib.hid hkids
  have HIH := Lib.hid ih
  obtain ⟨w1, hw1⟩ : ∃ w1, w1 = W.alloc (.cells #[.int .i64 9, .int .u64 u, .string s, .int .i64 x, .slice A n c] 30) := ⟨_, rfl⟩
  have hz : w1.heap.size = W.heap.size + 1 := by rw [hw1]; simp
  have hb1 : Blk w1 gf 34 [.int .u64 st, .bool sh] := by rw [hw1]; exact hb.alloc _
  have hp1 : Blk w1 W.heap.size 30 [.int .i64 9, .int .u64 u, .string s, .int .i64 x, .slice A n c] := by rw [hw1]; exact Blk.new W _ [_, _, _, _, _]
  have hg0 : W.grownBy w1 (some gf) := by rw [hw1]; exact World.grownBy_alloc _ _ _
  have hok : 0 < (([(222, 2), (223, 4)] : List (Int × Nat)).filter (okF ((M : Nat) : Int))).length := by
    apply List.length_pos_of_mem (a := (223, 4))
    refine List.mem_filter.2 ⟨by simp, ?_⟩
    simp only [okF, Bool.or_eq_true, decide_eq_true_eq]
    right
    have : (2 : Int) ^ (8 * 4) = 4294967296 := by decide
    rw [this]
    omega
  have hwt : WantsF (w1.alloc (.cells #[.int .i64 222, .int .i64 2, .int .i64 223, .int .i64 4] 62)) (w1.alloc (.cells #[.int .i64 222, .int .i64 2, .int .i64 223, .int .i64 4] 62)).heap.size (some ⟨W.heap.size + 1, 0, none⟩) [(222, 2), (223, 4)] := by
    have := (wantsF_lit w1 [(222, 2), (223, 4)]).more (show w1.heap.size + 1 ≤ (w1.alloc (.cells #[.int .i64 222, .int .i64 2, .int .i64 223, .int .i64 4] 62)).heap.size by simp)
    rw [hz] at this
    exact this
  have hcall := putHead_any (w1.alloc (.cells #[.int .i64 222, .int .i64 2, .int .i64 223, .int .i64 4] 62)) gf 2 M st 128 16 sh (some ⟨W.heap.size + 1, 0, none⟩) [(222, 2), (223, 4)] (hb1.alloc _) (by omega) hwt (by simp) (by simp) (.inr ⟨by omega, by omega, by omega, orP128⟩) hok
  have q4 := hp1.cell 4
  simp only [List.getElem?_cons_zero, List.getElem?_cons_succ] at q4
  have hne : W.heap.size ≠ gf := hp1.ne_ hb1 (by decide)
  have HP1 := Lib.hid hp1
  have HC1 := Lib.hid hcall
  have HW1 := Lib.hid hw1
  have HG0 := Lib.hid hg0
  have HZ := Lib.hid hz
  have HM := Lib.hid hM
  have HWF := Lib.hid hwf
  clear hb hb1 hp1 hw1 hg0 hok hwt hcall hz hM h hkids ih hwf
  rw [HW1.out] at q4
  go_enter Tryd.func7, Tryd.ntmps7
  go_wp2_with (
    (go_at_call 23)
    go_must (
      (rw [← HW1.out])
      refine HC1.out.mono ?_
      rintro e w3 ⟨enc, A3, c3, st3, rfl, hf3, hown3, hb3, hg3⟩
      have hp3 : Blk w3 W.heap.size 30 _ := (HP1.out.alloc _).grown hg3 (fun e => hne (by injection e))
      have hgr3 : W.grownBy w3 (some gf) := grownP_trans HG0.out (grownP_trans (World.grownBy_alloc w1 (.cells #[.int .i64 222, .int .i64 2, .int .i64 223, .int .i64 4] 62) _) hg3)
      have hol3 := own_lower (B' := W.heap.size) hown3 (by have := HZ.out; simp; omega)
      have hbr3 : ∃ b r, enc = b :: r ∧ OtherB 9 b := headX_other9 hf3 (by omega)
      have hkf3 : Hid (KidsF ((M : Nat) : Int) 128 [(222, 2), (223, 4)] 0 G enc) := ⟨enc, fun _ => [], hf3, (List.append_nil _).symm, fun i hi => absurd hi (by omega)⟩
      obtain ⟨hl0, hl5⟩ := headX_len hf3 (by simp)
      obtain ⟨N3, hN3⟩ : ∃ N3, N3 = enc.length := ⟨_, rfl⟩
      rw [← hN3] at hol3 hl0 hl5 ⊢
      have q43 := hp3.cell 4
      simp only [List.getElem?_cons_zero, List.getElem?_cons_succ] at q43
      have HST : Hid (∃ (d : List Int) (st' : Int), N3 = d.length ∧ ((∃ b r, d = b :: r ∧ OtherB 9 b) ∧ Hid (KidsF ((M : Nat) : Int) 128 [(222, 2), (223, 4)] 0 G d)) ∧ d.length ≤ 5 + 140000 * sumN (fun i => (f i).cnt) 0 ∧ w3.ownsRow W.heap.size 5 1 (.slice A3 N3 c3) N3 (bs d) ∧ Blk w3 gf 34 [.int .u64 st', .bool sh] ∧ W.grownBy w3 (some gf)) := ⟨enc, st3, hN3, ⟨hbr3, hkf3⟩, by omega, hol3, hb3, hgr3⟩
      clear hf3 hown3 hb3 hg3 hp3 hgr3 hol3 hbr3 hkf3 hN3 q4))
  clear q43
  go_loopw [5, 106] (fun v i wr => ∃ (m N c' : Nat) (A' : Option Addr), m ≤ n ∧ i = .int .i64 m ∧ v = .slice A' N c' ∧ N ≤ 71000000 ∧ Hid (∃ (d : List Int) (st' : Int), N = d.length ∧ ((∃ b r, d = b :: r ∧ OtherB 9 b) ∧ Hid (KidsF ((M : Nat) : Int) 128 [(222, 2), (223, 4)] m G d)) ∧ d.length ≤ 5 + 140000 * sumN (fun i => (f i).cnt) m ∧ wr.ownsRow W.heap.size 5 1 (.slice A' N c') N (bs d) ∧ Blk wr gf 34 [.int .u64 st', .bool sh] ∧ W.grownBy wr (some gf))) (fun _ i _ => n - (intOf i).toNat)
  case atStart => exact ⟨0, N3, c3, A3, Nat.zero_le _, rfl, rfl, by omega, HST⟩
  case round =>
    obtain ⟨m, N, c', A', hm, rfl, rfl, hNb, hrest⟩ := hrel
    obtain ⟨d, st4, hN, hbr, hdl, hown, hb4, hg4⟩ := hrest.out
    have HD := Lib.hid (And.intro hN (And.intro hbr hdl))
    have HOWN := Lib.hid hown
    have HB4 := Lib.hid hb4
    have HG4 := Lib.hid hg4
    have hwz : W.heap.size ≤ wr.heap.size := hg4.size
    clear hrest hN hbr hdl hown hb4 hg4 HST
    by_cases hlt : m < n
    · obtain ⟨g, o, hA, hgB, hk⟩ := HKIDS.out (show 0 < n by omega)
      obtain ⟨Ai, ci, c0, c1, c2, c3', c4, htk⟩ := hk m hlt
      have hbel : Below B W wr := below_of_grown HG4.out (fun j hj => by injection hj with hj; omega) hB
      have hce : ∀ q, wr.cell? ⟨g, q, none⟩ = W.cell? ⟨g, q, none⟩ := fun q => hbel.cell (p := ⟨g, q, none⟩) hgB
      have d0 := (hce _).trans c0
      have d1 := (hce _).trans c1
      have d2 := (hce _).trans c2
      have d3 := (hce _).trans c3'
      have d4 := (hce _).trans c4
      have hBw : B ≤ wr.heap.size := Nat.le_trans hB hwz
      have hcall := HIH.out m hlt (wr.alloc (.cells #[.int .i64 (f m).k, .int .u64 (f m).u, .string (f m).s, .int .i64 (f m).x, .slice Ai (f m).n ci] 30)) st4 Ai ci (TR.below (hbel.alloc hBw _) _ _ _ htk) (by simp; omega) (HB4.out.alloc _)
      unfold vP at hcall
      simp only [PT.kid] at d0 d1 d2 d3 d4
      have hsum : sumN (fun i => (f i).cnt) (m + 1) = sumN (fun i => (f i).cnt) m + (f m).cnt := rfl
      have hsle := sumN_le (fun i => (f i).cnt) (show m + 1 ≤ n by omega)
      subst hA
      have HC := Lib.hid hcall
      generalize f m = T at *
      have HSUM := Lib.hid (And.intro hsum hsle)
      have hTc : T.cnt ≤ 500 := by omega
      clear hk c0 c1 c2 c3' c4 htk hce hcall hsum hsle hbel
      go_wp2_with (first
        | (go_at_call 7
           go_must (
             (refine HC.out.mono ?_)
             rintro e w5 ⟨enc5, A5, c5, st5, rfl, hf5, hown5, hb5, hg5⟩
             have hg5' : wr.grownBy w5 (some gf) := grownP_trans (World.grownBy_alloc wr (.cells #[.int .i64 T.k, .int .u64 T.u, .string T.s, .int .i64 T.x, .slice Ai T.n ci] 30) _) hg5
             have hownr : w5.ownsRow W.heap.size 5 1 (.slice A' N c') N (bs d) := HOWN.out.kept hg5' (.inr (own_neP HOWN.out HB4.out (by decide)))
             obtain ⟨⟨_, hf50, hf51⟩, hg50⟩ := hf5
             have HG50 := Lib.hid hg50
             have hwz5 : W.heap.size ≤ w5.heap.size := Nat.le_trans hwz hg5'.size
             have hsm : N + enc5.length ≤ 71000000 := by
               have h1 := HD.out.1
               have h2 := HD.out.2.2
               have h3 := HSUM.out.1
               have h4 := HSUM.out.2
               omega
             have hrd5 := Reads.of_own hown5
             have HRD5 := Lib.hid hrd5
             have HOWN5 := Lib.hid hownr
             have HB5 := Lib.hid hb5
             have HG5 := Lib.hid (grownP_trans HG4.out hg5')
             clear hown5 hb5 hg5 hg5' hownr hrd5 hg50))
        | ((at_builtin)
           go_must (
             (refine wpList_append_any _ rfl (.tmp 110) (.tmp 113) 24 rfl W.heap.size 5 i0 _ 1 1 Tryd.underlying24 hi0 hz0 hz1 hz2 rfl (by omega) (.slice A' N c') N _ rfl HOWN5.out w5.heap.size A5 enc5.length c5 (bs enc5) rfl HRD5.out (bs_one _) (by simp only [maxLen]; omega) (by omega) hwz5 ?_)
             intro v1 w6 hown6 hg6 hat6
             obtain ⟨A6, c6, rfl⟩ := own_formP hown6
             rw [← bs_append] at hown6
             have hb6 := HB5.out.grown hg6 (fun e => own_neP HOWN5.out HB5.out (by decide) e.symm)
             have hgr6 := grownP_fresh HG5.out hg6 (fun j hj => (HOWN5.out.lt j hj).1)
             have HO6 := Lib.hid hown6
             have HB6 := Lib.hid hb6
             have HG6 := Lib.hid hgr6
             clear hown6 hg6 hat6 hb6 hgr6)))
      go_roundw
      case rel =>
        obtain ⟨hN, ⟨⟨b, r, hd, hob⟩, hkf⟩, hdl⟩ := HD.out
        refine ⟨m + 1, N + enc5.length, c6, A6, by omega, by go_num, rfl, hsm, d ++ enc5, st5, by rw [List.length_append, hN], ⟨⟨b, r ++ enc5, by rw [hd]; rfl, hob⟩, KidsF.more hkf.out HG50.out⟩, ?_, HO6.out, HB6.out, HG6.out⟩
        rw [List.length_append, HSUM.out.1]
        omega
      case measure => simp [intOf]; omega
    · obtain rfl : m = n := by omega
      go_wp2
      go_ret
      obtain ⟨hN, ⟨⟨b, r, hd, hob⟩, hkf⟩, hdl⟩ := HD.out
      subst hN
      refine ⟨d, A', c', st4, rfl, ⟨⟨⟨?_, ?_, ?_, ?_, ?_, ?_, ?_, fun _ => ⟨b, r, hd, hob⟩⟩, by rw [hd]; simp, ?_⟩, by have := hkf.out; rw [HM.out] at this; exact this⟩, HOWN.out, HB4.out, HG4.out⟩
      all_goals first
        | (intro e; exact absurd (show (9 : Int) = _ from e) (by decide))
        | (rw [PT.cnt_eq]; simp only [PT.kid, PT.n]; omega)
end Go.Proofs.YtfhaddnacdjpoaaDoor
