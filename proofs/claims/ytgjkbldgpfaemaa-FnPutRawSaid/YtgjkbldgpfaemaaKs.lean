/- The law FnPutRaw: a value that is written already is appended as it is; nothing as nil. PRINTED by wip/genraw.py. -/
import Derived.Test.YtgjkbldgpfaemaaKp
import Derived.Laws.BytesArg
import Derived.Laws.Concat
namespace Go.Proofs.Ytgjkbldgpfaemaa
open Go.RowKit
set_option linter.unusedVariables false

theorem AppendNil_b (w0 w : World) (B g : Nat) (cs : List Value) (l : List Int) (hw0 : Below B w0 w) (hB : B ≤ g) (hBw : B ≤ w.heap.size) (hb : Blk w g 5 cs) (hx : cs.take l.length = bs l) (hm : cs.length ≤ maxLen) (hs : l.length ≤ 1099511000000) :
    Calls Try.prog 32 #[.slice (some ⟨g, 0, none⟩) l.length cs.length] w (AppB w0 B (l ++ [192])) := by
  obtain ⟨i0, hi0, hz0, hz1, hz2⟩ := info_parts infoU8
  have hn : l.length ≤ cs.length := by
    have := congrArg List.length hx
    rw [List.length_take, bs_length] at this
    omega
  have hgl := hb.lt
  have ho := blk_own hb hB hn hm
  rw [hx] at ho
  have HO := Lib.hid ho
  have HW0 := Lib.hid hw0
  clear hb hx hw0 hn ho
  go_enter Try.func32, Try.ntmps32
  go_wp2_with (
     (at_builtin)
     go_must (
       (refine wpList_append_any _ rfl (.tmp 3) (.tmp 4) 22 rfl B 5 i0 _ 1 1 Try.underlying22 hi0 hz0 hz1 hz2 rfl (by omega) (.slice (some ⟨g, 0, none⟩) l.length cs.length) l.length (bs l) rfl (HO.out.alloc _) (w.heap.size + 1) _ 1 1 [.int .u8 192] rfl (reads_one _ _ _) (by simp; rfl) (by simp only [maxLen]; omega) (by omega) (by simp; omega) ?_)
       intro v1 w1 hown1 hg1 hat1))
  go_ret
  have hne : v1 ≠ .slice none 0 0 := by
    rintro rfl
    rcases hat1 with h | h <;> simp [Value.ownBlock] at h
  have hown : w1.ownsRow B 5 1 v1 (bs (l ++ [192])).length (bs (l ++ [192])) := by simpa [bs] using hown1
  refine appB (app_own hown hne (((HW0.out).alloc hBw _).grown hg1 (by simp; omega) (fun k hk => ?_)))
  simp [Value.ownBlock] at hk
  omega

/-- What Raw appends: itself; nothing as nil. -/
def encRaw (r : List Int) : List Int := if r = [] then [192] else r
def AppE (w : World) (B : Nat) (l : List Int) (e : Ending) (w' : World) : Prop :=
  ∃ g cs, e = .returned (.tuple #[.slice (some ⟨g, 0, none⟩) l.length cs.length, .nilIface]) ∧ Blk w' g 5 cs ∧ l.length ≤ cs.length ∧ cs.length ≤ maxLen ∧ cs.take l.length = bs l ∧ B ≤ g ∧ Below B w w'

set_option maxHeartbeats 1000000 in
theorem Raw_b (w0 w : World) (B g gr : Nat) (cs crs : List Value) (l r : List Int) (hw0 : Below B w0 w) (hB : B ≤ g) (hBw : B ≤ w.heap.size) (hb : Blk w g 5 cs) (hx : cs.take l.length = bs l) (hm : cs.length ≤ maxLen) (hs : l.length ≤ 1099000000000)
    (hbr : Blk w gr 5 crs) (hxr : crs.take r.length = bs r) (hrc : r.length ≤ crs.length) (hgr : gr < g ∨ g < gr) (hrl : r.length ≤ 16777216) :
    Calls Try.prog 24 #[.slice (some ⟨gr, 0, none⟩) r.length crs.length, .slice (some ⟨g, 0, none⟩) l.length cs.length] w (AppE w0 B (l ++ encRaw r)) := by
  have hgl := hb.lt
  have hgrl := hbr.lt
  have HB := Lib.hid hb
  have HX := Lib.hid hx
  have HBR := Lib.hid hbr
  have HXR := Lib.hid hxr
  have HW0 := Lib.hid hw0
  clear hb hx hbr hxr hw0
  by_cases h0 : r.length = 0
  · have hr0 : r = [] := List.eq_nil_of_length_eq_zero h0
    have he : encRaw r = [192] := by unfold encRaw; rw [if_pos hr0]
    rw [he, h0]
    clear he hr0 h0 HXR hrc
    go_enter Try.func24, Try.ntmps24
    go_wp2_with (
      (go_at_call 32)
      go_must (
        (refine (AppendNil_b w0 w B g cs l HW0.out hB hBw HB.out HX.out hm (by omega)).mono ?_)
        rintro e w1 ⟨g1, cs1, rfl, hb1, hn1, hm1, ht1, hB1, hbel1⟩
        have HB1 := Lib.hid hb1
        have HT1 := Lib.hid ht1
        have HN1 := Lib.hid hn1
        have HBEL1 := Lib.hid hbel1
        clear hb1 ht1 hn1 hbel1))
    go_ret2
    exact ⟨g1, cs1, by first | rfl | (rw [List.length_append]; rfl), HB1.out, HN1.out, hm1, HT1.out, hB1, HBEL1.out⟩
  · have he : encRaw r = r := by unfold encRaw; rw [if_neg (fun h => h0 (by rw [h]; rfl))]
    rw [he]
    clear he
    have hd : ((r.length : Int) == 0) = false := by rw [beq_eq_false_iff_ne]; omega
    have hpos : 0 < r.length := by omega
    clear h0
    go_enter Try.func24, Try.ntmps24
    go_wp2_with (first
      | (go_at_call 33
         go_must (
           (refine (ensure_b _ g r.length _ (by omega) cs l HB.out HX.out hm (by omega)).mono ?_)
           rintro e w1 ⟨g', cs', rfl, hb1, hn1, hm1, ht1, hbel, hk⟩
           have HB1 := Lib.hid hb1
           have HT1 := Lib.hid ht1
           have HL1 : Hid (Below B w0 w1) := HW0.out.trans (hbel.mono hBw)
           have hm1' : cs'.length ≤ 9223372036854775807 := by unfold maxLen at hm1; omega
           have hgB : B ≤ g' := by rcases hk with h | h <;> omega
           have HBR1 : Hid (Blk w1 gr 5 crs) := HBR.out.below hbel hgrl
           clear hb1 ht1 hbel hk))
      | ((with_reducible refine gate_dst (N := 25) rfl ?_)
         go_must (
           (refine wpList_copy_splice rfl (.tmp 23) (.tmp 24) 22 22 rfl 5 Try.underlying22 (by kernel_rfl) _ _ _ _ _ _ rfl rfl g' l.length cs' 5 HB1.out (bs r) ?_ ?_ ?_ (bs_one r) B w0 HL1.out hgB ?_)
           · rw [bs_length]; exact (Nat.min_eq_left (by omega)).symm
           · intro _
             refine ⟨by first | rfl | (rw [if_neg (by omega)]), _, rfl, fun j v hv => ?_⟩
             rw [add_lit, Nat.zero_add, HBR1.out.cell]
             rw [← HXR.out, List.getElem?_take] at hv
             split at hv
             · exact hv
             · cases hv
           · rw [bs_length]; omega
           intro w3 hb3 hbel3
           have HBEL3 := Lib.hid hbel3
           clear hbel3)))
    go_ret2
    have l1 : (splice cs' l.length (bs r)).length = cs'.length := length_splice _ _ _ (by rw [bs_length]; omega)
    have t1 := splice_take cs' l.length (bs r) (by rw [bs_length]; omega)
    rw [bs_length] at t1
    exact ⟨g', splice cs' l.length (bs r), by rw [l1, List.length_append]; rfl, hb3.out, by rw [l1, List.length_append]; omega, by rw [l1]; exact hm1, by rw [List.length_append, t1, HT1.out, bs_append], hgB, HBEL3.out⟩

set_option maxHeartbeats 1000000 in
theorem PutRaw_calls (w : World) (A A2 : Option Addr) (c c2 : Nat) (l r : List Int) (h : Reads w w.heap.size 1 A l.length (bs l)) (h2 : Reads w w.heap.size 1 A2 r.length (bs r)) (hn1 : l.length ≤ 1099000000000) (hr : r.length ≤ 16777216) :
    Calls Try.prog 11 #[.slice A l.length c, .slice A2 r.length c2] w (AppB w w.heap.size (l ++ encRaw r)) := by
  have H := Lib.hid h
  have H2 := Lib.hid h2
  clear h h2
  have tok : True := trivial
  go_enter Try.func11, Try.ntmps11
  go_wp2_with (first
    | (have _t := tok
       go_at_call 23
       go_must (
         (refine (copied_b _ A2 c2 r H2.out (by omega)).mono ?_)
         rintro e w1 ⟨gr, crs, rfl, hbr, hnr, hmr, htr, hBr, hbelr⟩
         have HBR := Lib.hid hbr
         have HTR := Lib.hid htr
         have HBELR := Lib.hid hbelr
         have H1 : Hid (Reads w1 w1.heap.size 1 A l.length (bs l)) := (H.out.below hbelr).more hbelr.size
         have hszr := hbelr.size
         have hgrl := hbr.lt
         clear hbr htr hbelr tok))
    | (go_at_call 23
       go_must (
         (refine (copied_b _ A c l H1.out (by omega)).mono ?_)
         rintro e w2 ⟨g, cs, rfl, hb, hnn1, hm1, ht1, hB1, hbel⟩
         have HB := Lib.hid hb
         have HT := Lib.hid ht1
         have HBEL : Hid (Below w.heap.size w w2) := HBELR.out.trans (hbel.mono hszr)
         have HBR2 : Hid (Blk w2 gr 5 crs) := HBR.out.below hbel hgrl
         have hsz := hbel.size
         clear hb ht1 hbel))
    | (go_at_call 24
       go_must (
         (refine (Raw_b w w2 w.heap.size g gr cs crs l r HBEL.out (by omega) (by omega) HB.out HT.out hm1 (by omega) HBR2.out HTR.out hnr (.inl (by omega)) hr).mono ?_)
         rintro e w3 ⟨g2, cs2, rfl, hb2, hnn2, hm2, ht2, hB2, hbel2⟩
         obtain ⟨N2, hN2⟩ : ∃ N2, N2 = (l ++ encRaw r).length := ⟨_, rfl⟩
         rw [← hN2]
         have HN2 := Lib.hid hN2
         have HB2 := Lib.hid hb2
         have HT2 := Lib.hid ht2
         have HBEL2 := Lib.hid hbel2
         have hn2' := Lib.hid hnn2
         clear hb2 ht2 hbel2 hnn2 hN2)))
  go_ret
  exact ⟨g2, cs2, by rw [← HN2.out]; rfl, HB2.out, hn2'.out, hm2, HT2.out, hB2, HBEL2.out⟩

theorem PutRaw_awake (w : World) (A : Option Addr) (h : Reads w w.heap.size 1 A 1 (bs [5])) : Calls Try.prog 11 #[.slice none 0 0, .slice A 1 1] w (AppB w w.heap.size [5]) := by
  have e := PutRaw_calls w none A 0 1 [] [5] Reads.none_ h (by simp) (by simp)
  exact e

theorem strOfNums_append (a b : List Int) : strOfNums a ++ strOfNums b = strOfNums (a ++ b) := by
  apply ByteArray.ext
  simp [strOfNums, ByteArray.data_append]

set_option maxHeartbeats 4000000 in
set_option maxRecDepth 100000 in
theorem FnPutRaw_walk (w : World) (A A2 : Option Addr) (c c2 : Nat) (l r : List Int) (h : Reads w w.heap.size 1 A l.length (bs l)) (h2 : Reads w w.heap.size 1 A2 r.length (bs r)) :
    Calls Try.prog 4 #[.slice A l.length c, .slice A2 r.length c2] w fun e w' => e = .returned (.bool true) ∧ Below w.heap.size w w' := by
  have H := Lib.hid h
  have H2 := Lib.hid h2
  clear h h2
  by_cases hz : 2147483647 < l.length
  · have hd : decide ((2147483647 : Int) < (l.length : Int)) = true := by simp; omega
    go_enter Try.func4, Try.ntmps4
    go_wp2
    go_ret
    exact ⟨rfl, Below.refl _ _⟩
  have hd : decide ((2147483647 : Int) < (l.length : Int)) = false := by simp; omega
  by_cases hz2 : 2147483647 < r.length
  · have hd2 : decide ((2147483647 : Int) < (r.length : Int)) = true := by simp; omega
    go_enter Try.func4, Try.ntmps4
    go_wp2
    go_ret
    exact ⟨rfl, Below.refl _ _⟩
  have hd2 : decide ((2147483647 : Int) < (r.length : Int)) = false := by simp; omega
  have hconvA : ∀ W : World, ∀ g cs, Hid (Blk W g 5 cs) → Hid (cs.take 1 = bs [5]) → 1 ≤ cs.length → (convert 22 9 (.slice (some ⟨g, 0, none⟩) 1 cs.length)).run Try.prog W = .ok (.string ⟨#[5]⟩) W := fun W g cs hb ht hn => by
    have hr := bs_reads (l := [5]) hb.out hn ht.out
    exact conv_reads hr _ _ _ Try.underlying22 Try.underlying5 Try.underlying9
  have HCA := Lib.hid hconvA
  clear hconvA
  by_cases hf : l.length ≤ 200
  · by_cases hr2 : 65536 < r.length
    · have hd3 : decide ((65536 : Int) < (r.length : Int)) = true := by simp; omega
      go_enter Try.func4, Try.ntmps4
      go_wp2_with (first
        | (go_at_call 11
           go_must (
             (refine (PutRaw_awake _ _ (by simpa [bs] using reads_one w (.int .u8 5) 5)).mono ?_)
             rintro e w1 ⟨g1, cs1, rfl, hb1, hn1, hm1, ht1, hB1, hbel1⟩
             have hcA := HCA.out w1 g1 cs1 hb1 ht1 hn1
             have HBEL1 : Hid (Below w.heap.size w w1) := ((Below.refl _ w).alloc (Nat.le_refl _) _).trans (hbel1.mono (by simp))
             clear hb1 ht1 hbel1))
        | (go_at_call 12
           go_must (
             (refine (few_yes _ _ _ _ hf).mono ?_)
             rintro e w' ⟨rfl, rfl⟩)))
      go_ret
      exact ⟨rfl, HBEL1.out⟩
    · have hd3 : decide ((65536 : Int) < (r.length : Int)) = false := by simp; omega
      have hsl : (strOfNums l).size ≤ 200 := by rw [strOfNums_size]; exact hf
      have hsr : (strOfNums r).size ≤ 65536 := by rw [strOfNums_size]; omega
      obtain ⟨S3, hS3⟩ : ∃ S, S = strOfNums (l ++ encRaw r) := ⟨_, rfl⟩
      have HS3 := Lib.hid hS3
      by_cases hr0 : r = []
      · subst hr0
        have hcat2 : strOfNums l ++ ⟨#[192]⟩ = S3 := by rw [hS3]; exact strOfNums_append l [192]
        clear hS3
        go_enter Try.func4, Try.ntmps4
        go_wp2_with (first
          | (have _t := H2
             go_at_call 11
             go_must (
               (refine (PutRaw_awake _ _ (by simpa [bs] using reads_one w (.int .u8 5) 5)).mono ?_)
               rintro e w1 ⟨g1, cs1, rfl, hb1, hn1, hm1, ht1, hB1, hbel1⟩
               have hcA := HCA.out w1 g1 cs1 hb1 ht1 hn1
               have HBEL1 : Hid (Below w.heap.size w w1) := ((Below.refl _ w).alloc (Nat.le_refl _) _).trans (hbel1.mono (by simp))
               have H1 : Hid (Reads w1 w1.heap.size 1 A l.length (bs l)) := (H.out.below HBEL1.out).more HBEL1.out.size
               have H21 : Hid (Reads w1 w1.heap.size 1 A2 0 (bs [])) := (H2.out.below HBEL1.out).more HBEL1.out.size
               have hcl : ∀ c, (convert 22 9 (.slice A l.length c)).run Try.prog w1 = .ok (.string (strOfNums l)) w1 := fun c => conv_reads H1.out _ _ _ Try.underlying22 Try.underlying5 Try.underlying9
               have hcr : ∀ c, (convert 22 9 (.slice A2 0 c)).run Try.prog w1 = .ok (.string (strOfNums [])) w1 := fun c => conv_reads H21.out _ _ _ Try.underlying22 Try.underlying5 Try.underlying9
               clear hb1 ht1 hbel1 H2))
          | (go_at_call 12
             go_must (
               (refine (few_yes _ _ _ _ hf).mono ?_)
               rintro e w' ⟨rfl, rfl⟩))
          | (at_builtin
             go_must (
               (refine wpList_append_fresh (W := w1) rfl _ _ rfl rfl rfl rfl H1.out (by omega) ?_)
               intro g2 cs2 w2 HB2 hn2 hm2 HT2 hB2 HBEL2
               clear hcl hcr))
          | (have _t := HB2
             go_at_call 11
             go_must (
               (refine (PutRaw_calls _ _ _ _ c2 l [] (bs_reads HB2.out hn2 HT2.out) ((H21.out.below HBEL2.out).more HBEL2.out.size) (by omega) (by simp)).mono ?_)
               rintro e w3 ⟨g3, cs3, rfl, hb3, hn3, hm3, ht3, hB3, hbel3⟩
               obtain ⟨N3, hN3⟩ : ∃ N3, N3 = (l ++ encRaw []).length := ⟨_, rfl⟩
               have hc3 : (convert 22 9 (.slice (some ⟨g3, 0, none⟩) N3 cs3.length)).run Try.prog w3 = .ok (.string S3) w3 := by
                 rw [hN3, HS3.out]
                 exact conv_reads (bs_reads hb3 hn3 ht3) _ _ _ Try.underlying22 Try.underlying5 Try.underlying9
               rw [← hN3]
               have HBEL3 := Lib.hid hbel3
               clear HB2 hb3 ht3 hbel3 hn3 hN3)))
        go_ret
        have b1 := HBEL1.out
        have b2 := HBEL2.out
        have b3 := HBEL3.out
        have z1 := b1.size
        have z2 := b2.size
        exact ⟨rfl, (b1.trans (b2.mono z1)).trans (b3.mono (by omega))⟩
      · have hcat : strOfNums l ++ strOfNums r = S3 := by rw [hS3, strOfNums_append]; unfold encRaw; rw [if_neg hr0]
        have hde : ((r.length : Int) == 0) = false := by
          rw [beq_eq_false_iff_ne]
          intro h
          exact hr0 (List.eq_nil_of_length_eq_zero (by omega))
        clear hS3 hr0
        go_enter Try.func4, Try.ntmps4
        go_wp2_with (first
          | (have _t := H2
             go_at_call 11
             go_must (
               (refine (PutRaw_awake _ _ (by simpa [bs] using reads_one w (.int .u8 5) 5)).mono ?_)
               rintro e w1 ⟨g1, cs1, rfl, hb1, hn1, hm1, ht1, hB1, hbel1⟩
               have hcA := HCA.out w1 g1 cs1 hb1 ht1 hn1
               have HBEL1 : Hid (Below w.heap.size w w1) := ((Below.refl _ w).alloc (Nat.le_refl _) _).trans (hbel1.mono (by simp))
               have H1 : Hid (Reads w1 w1.heap.size 1 A l.length (bs l)) := (H.out.below HBEL1.out).more HBEL1.out.size
               have H21 : Hid (Reads w1 w1.heap.size 1 A2 r.length (bs r)) := (H2.out.below HBEL1.out).more HBEL1.out.size
               have hcl : ∀ c, (convert 22 9 (.slice A l.length c)).run Try.prog w1 = .ok (.string (strOfNums l)) w1 := fun c => conv_reads H1.out _ _ _ Try.underlying22 Try.underlying5 Try.underlying9
               have hcr : ∀ c, (convert 22 9 (.slice A2 r.length c)).run Try.prog w1 = .ok (.string (strOfNums r)) w1 := fun c => conv_reads H21.out _ _ _ Try.underlying22 Try.underlying5 Try.underlying9
               clear hb1 ht1 hbel1 H2))
          | (go_at_call 12
             go_must (
               (refine (few_yes _ _ _ _ hf).mono ?_)
               rintro e w' ⟨rfl, rfl⟩))
          | (at_builtin
             go_must (
               (refine wpList_append_fresh (W := w1) rfl _ _ rfl rfl rfl rfl H1.out (by omega) ?_)
               intro g2 cs2 w2 HB2 hn2 hm2 HT2 hB2 HBEL2
               clear hcl hcr))
          | (have _t := HB2
             go_at_call 11
             go_must (
               (refine (PutRaw_calls _ _ _ _ c2 l r (bs_reads HB2.out hn2 HT2.out) ((H21.out.below HBEL2.out).more HBEL2.out.size) (by omega) (by omega)).mono ?_)
               rintro e w3 ⟨g3, cs3, rfl, hb3, hn3, hm3, ht3, hB3, hbel3⟩
               obtain ⟨N3, hN3⟩ : ∃ N3, N3 = (l ++ encRaw r).length := ⟨_, rfl⟩
               have hc3 : (convert 22 9 (.slice (some ⟨g3, 0, none⟩) N3 cs3.length)).run Try.prog w3 = .ok (.string S3) w3 := by
                 rw [hN3, HS3.out]
                 exact conv_reads (bs_reads hb3 hn3 ht3) _ _ _ Try.underlying22 Try.underlying5 Try.underlying9
               rw [← hN3]
               have HBEL3 := Lib.hid hbel3
               clear HB2 hb3 ht3 hbel3 hn3 hN3)))
        go_ret
        have b1 := HBEL1.out
        have b2 := HBEL2.out
        have b3 := HBEL3.out
        have z1 := b1.size
        have z2 := b2.size
        exact ⟨rfl, (b1.trans (b2.mono z1)).trans (b3.mono (by omega))⟩
  · have hfd : ¬ l.length ≤ 200 := hf
    go_enter Try.func4, Try.ntmps4
    go_wp2_with (first
        | (go_at_call 11
           go_must (
             (refine (PutRaw_awake _ _ (by simpa [bs] using reads_one w (.int .u8 5) 5)).mono ?_)
             rintro e w1 ⟨g1, cs1, rfl, hb1, hn1, hm1, ht1, hB1, hbel1⟩
             have hcA := HCA.out w1 g1 cs1 hb1 ht1 hn1
             have HBEL1 : Hid (Below w.heap.size w w1) := ((Below.refl _ w).alloc (Nat.le_refl _) _).trans (hbel1.mono (by simp))
             clear hb1 ht1 hbel1))
        | (go_at_call 12
           go_must (
             (refine (few_no _ _ _ _ hfd).mono ?_)
             rintro e w' ⟨rfl, rfl⟩)))
    go_ret
    exact ⟨rfl, HBEL1.out⟩
end Go.Proofs.Ytgjkbldgpfaemaa
