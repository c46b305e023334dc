/- Rows of bytes that grow: setof.ensure, the head of an array, one value. PRINTED by wip/gensc.py. -/
import Derived.Test.YtfhaddnacdjpoaaKl
import Derived.Test.YtfhaddnacdjpoaaKh
namespace Go.Proofs.Ytfhaddnacdjpoaa
open Go.RowKit
set_option linter.unusedVariables false

/-- A call returned a row of bytes of its own. -/
def AppB (w : World) (B : Nat) (l : List Int) (e : Ending) (w' : World) : Prop :=
  ∃ g cs, e = .returned (.slice (some ⟨g, 0, none⟩) l.length cs.length) ∧ Blk w' g 5 cs ∧ l.length ≤ cs.length ∧ cs.length ≤ maxLen ∧ cs.take l.length = bs l ∧ B ≤ g ∧ Below B w w'
theorem appB {w w' : World} {B : Nat} {l : List Int} {e : Ending} (h : App w B (bs l) e w') : AppB w B l e w' := by
  unfold App at h
  rw [bs_length] at h
  exact h
theorem appB2 {w w' : World} {B : Nat} {l m : List Int} {e : Ending} (h : App w B (bs l ++ bs m) e w') : AppB w B (l ++ m) e w' := by
  rw [← bs_append] at h
  exact appB h
theorem bs_reads {w : World} {g : Nat} {cs : List Value} {l : List Int} (hb : Blk w g 5 cs) (hn : l.length ≤ cs.length) (ht : cs.take l.length = bs l) : Reads w w.heap.size 1 (some ⟨g, 0, none⟩) l.length (bs l) := by
  have h := (hb.reads 0 l.length (by omega)).more (show g + 1 ≤ w.heap.size from hb.lt)
  rwa [List.drop_zero, ht] at h
theorem copied_b (w : World) (A : Option Addr) (c : Nat) (l : List Int) (h : Reads w w.heap.size 1 A l.length (bs l)) (hn : l.length ≤ 70368744177664) :
    Calls Try.prog 12 #[.slice A l.length c] w (AppB w w.heap.size l) := by
  have e := copied_calls w A c (bs l) (by rw [bs_length]; exact h) (bs_one l) (by rw [bs_length]; exact hn)
  rw [bs_length] at e
  exact e.mono fun _ _ h => appB h

/-- The row of bytes in block g holds l; below block B nothing has turned since w0. -/
def Row8 (w0 W : World) (B g : Nat) (cs : List Value) (l : List Int) : Prop :=
  Below B w0 W ∧ B ≤ g ∧ B ≤ W.heap.size ∧ Blk W g 5 cs ∧ l.length ≤ cs.length ∧ cs.length ≤ maxLen ∧ cs.take l.length = bs l
theorem Row8.of {w0 w W : World} {B g : Nat} {cs : List Value} {l : List Int} (h0 : Below B w0 w) (hB0 : B ≤ w.heap.size) (h : Blk W g 5 cs) (h1 : l.length ≤ cs.length) (h2 : cs.length ≤ maxLen) (h3 : cs.take l.length = bs l) (h4 : B ≤ g) (h5 : Below B w W) : Row8 w0 W B g cs l :=
  ⟨h0.trans h5, h4, Nat.le_trans hB0 h5.size, h, h1, h2, h3⟩
theorem Row8.mk_ {w0 W : World} {B g : Nat} {cs : List Value} {l : List Int} (hB0 : B ≤ w0.heap.size) (h : Blk W g 5 cs) (h1 : l.length ≤ cs.length) (h2 : cs.length ≤ maxLen) (h3 : cs.take l.length = bs l) (h4 : B ≤ g) (h5 : Below B w0 W) : Row8 w0 W B g cs l :=
  ⟨h5, h4, Nat.le_trans hB0 h5.size, h, h1, h2, h3⟩
theorem Row8.grown {w0 W W' : World} {B g : Nat} {cs : List Value} {l : List Int} {row : Option Nat} (h : Row8 w0 W B g cs l) (hg : W.grownBy W' row) (hr : ∀ j, row = some j → B ≤ j ∧ j ≠ g) : Row8 w0 W' B g cs l := by
  obtain ⟨h1, h2, h3, h4, h5, h6, h7⟩ := h
  exact ⟨h1.grown hg h3 (fun j hj => (hr j hj).1), h2, Nat.le_trans h3 hg.size, h4.grown hg (fun e => (hr _ e.symm).2 rfl), h5, h6, h7⟩
theorem Row8.reads {w0 W : World} {B g : Nat} {cs : List Value} {l : List Int} (h : Row8 w0 W B g cs l) : Reads W W.heap.size 1 (some ⟨g, 0, none⟩) l.length (bs l) := bs_reads h.2.2.2.1 h.2.2.2.2.1 h.2.2.2.2.2.2
theorem wpList_make_lc {P : Program} (w : World) {ops : Array Oper} {rest : List Oper} {o : Oper} {a : Act} {Q : Exit → Act → World → Prop}
    (hg : o.guard = none) (l c : Operand) (t : TypeId) (hop : o.op = Op.makeSlice t l c) (e : TypeId) (i : TypeInfo) (z : Value) (h1 : P.underlying t = some (.slice e)) (h2 : P.info? e = some i) (h3 : i.zero = some z) (h4 : i.size = 1)
    (L C : Nat) (x y : Int) (hl : a.eval l = .int .i64 x) (hc : a.eval c = .int .i64 y) (hx : x = (L : Int)) (hy : y = (C : Int)) (hLC : L ≤ C) (b2 : i.bytes * C ≤ 281474976710656) (b3 : C ≤ maxLen)
    (hK : ∀ cs : List Value, cs.length = C → wpList P ops Q rest (a.put o.dst (.slice (some ⟨w.heap.size, 0, none⟩) L C)) (w.alloc (.cells cs.toArray e))) : wpList P ops Q (o :: rest) a w := by
  subst hx hy
  refine wpList_plain hg fun K hK' => ?_
  have hb' : (i.bytes : Int) * (C : Int) ≤ 281474976710656 := by
    have h : ((i.bytes * C : Nat) : Int) ≤ 281474976710656 := by omega
    rwa [Int.natCast_mul] at h
  have hrun := run_make (P := P) w t e i z h1 h2 h3 .i64 .i64 (L : Int) (C : Int) (by omega) (by omega) hb' (by simp only [maxLen] at b3; omega)
  simp only [Int.toNat_natCast] at hrun
  unfold Oper.wp
  simp [execOp, hop, hl, hc, hrun, Result.andThen]
  refine hK' _ _ (hK (madeCells z.cells (C * i.size)).toList ?_)
  rw [Array.length_toList, size_madeCells, h4, Nat.mul_one]

set_option maxHeartbeats 4000000 in
set_option maxRecDepth 100000 in
theorem setEnsure_calls (w0 w : World) (B g sz : Nat) (cs : List Value) (l : List Int) (z : Int) (hz : z = (sz : Int)) (h : Row8 w0 w B g cs l) (hs : l.length ≤ 1000000) (hsz : sz ≤ 1000000) :
    Calls Try.prog 18 #[.slice (some ⟨g, 0, none⟩) l.length cs.length, .int .i64 z] w (AppB w0 B l) := by
  subst hz
  obtain ⟨i0, hi0, hz0, hz1, hz2⟩ := info_parts infoU8
  obtain ⟨h1, h2, h3, h4, h5, h6, h7⟩ := h
  have hcells : ∀ j u, (bs l)[j]? = some u → w.cell? ((⟨g, 0, none⟩ : Addr).add j) = some u := fun j u hu => by
    rw [add_lit, Nat.zero_add, h4.cell]
    have hj : j < l.length := by
      rcases Nat.lt_or_ge j l.length with hh | hh
      · exact hh
      · rw [List.getElem?_eq_none (by rw [bs_length]; exact hh)] at hu; cases hu
    have e : (cs.take l.length)[j]? = (bs l)[j]? := by rw [h7]
    rw [List.getElem?_take, if_pos hj] at e
    rw [e, hu]
  have hgl := h4.lt
  have HC := Lib.hid hcells
  have HB := Lib.hid h4
  have HW := Lib.hid h1
  have HX := Lib.hid h7
  have hm' : cs.length ≤ 9223372036854775807 := by unfold maxLen at h6; omega
  have hbl : (bs l).length = l.length := bs_length l
  have HBL := Lib.hid hbl
  have h1l := bs_one l
  have H1 := Lib.hid h1l
  clear hcells h4 h1 h7 hbl h1l
  by_cases hc : (cs.length : Int) - (l.length : Int) < (sz : Int)
  · have hcd : decide ((cs.length : Int) - (l.length : Int) < (sz : Int)) = true := by simp; omega
    go_enter Try.func18, Try.ntmps18
    go_wp2_with (first
      | (at_make
         go_must (
           refine wpList_make_lc _ rfl (.tmp 17) (.tmp 20) _ rfl 5 i0 _ Try.underlying22 hi0 hz0 hz1 l.length (l.length + sz) _ _ rfl rfl (by omega) (by omega) (by omega) (by rw [hz2]; omega) (by simp only [maxLen]; omega) ?_
           intro c2 hl2
           have HL2 := Lib.hid hl2
           clear hl2))
      | ((with_reducible refine gate_dst (N := 24) rfl ?_)
         go_must (
           (refine wpList_copy_splice rfl (.tmp 22) (.tmp 23) 22 22 rfl 5 Try.underlying22 (by kernel_rfl) _ _ _ _ _ _ rfl rfl w.heap.size 0 c2 5 (Blk.new w _ c2) (bs l) ?_ ?_ ?_ H1.out w.heap.size w ?_ (Nat.le_refl _) ?_)
           · exact HBL.out.trans (Nat.min_eq_left (Nat.le_refl _)).symm
           · exact fun _ => ⟨rfl, _, rfl, fun j v hv => (World.cell?_alloc_lt _ _ _ (World.block_lt_of_cell? w _ (HC.out j v hv))).trans (HC.out j v hv)⟩
           · rw [HL2.out, HBL.out]; omega
           · exact (Below.refl _ _).alloc (Nat.le_refl _) _
           intro w2 hb2 hbel2
           have HBEL2 := Lib.hid hbel2
           clear hbel2)))
    go_ret
    have hls : (splice c2 0 (bs l)).length = l.length + sz := by rw [length_splice c2 0 (bs l) (by rw [HL2.out, HBL.out]; omega)]; exact HL2.out
    exact ⟨w.heap.size, splice c2 0 (bs l), by rw [hls]; rfl, hb2.out, by rw [hls]; omega, by rw [hls]; simp only [maxLen]; omega, by rw [← HBL.out]; simp [splice], h3, HW.out.trans (HBEL2.out.mono h3)⟩
  · have hcd : decide ((cs.length : Int) - (l.length : Int) < (sz : Int)) = false := by simp; omega
    go_enter Try.func18, Try.ntmps18
    go_wp2
    go_ret
    exact ⟨g, cs, rfl, HB.out, h5, h6, HX.out, h2, HW.out⟩

/-- The head of an array of n values, as it is written. -/
def encA (n : Nat) : List Int := if n ≤ 15 then [144 + (n : Int)] else 220 :: be n 2
theorem encA_len (n : Nat) : 0 < (encA n).length ∧ (encA n).length ≤ 3 := by
  unfold encA
  split
  · simp
  · simp [be_length]
theorem wfixarr_calls (w : World) (n : Nat) (h : n ≤ 15) : Calls Try.prog 30 #[.int .u8 (n : Int)] w fun e w' => e = .returned (.int .u8 (144 + (n : Int))) ∧ w = w' := by
  have hd : bits .or .u8 ((n : Int) % 16) 144 = 144 + (n : Int) := by rw [show (n : Int) % 16 = n by omega]; exact or144 _ (by omega) (by omega)
  go_enter Try.func30, Try.ntmps30
  go_wp2
  go_ret
  exact ⟨by first | rfl | simp [hd], rfl⟩

set_option maxHeartbeats 4000000 in
set_option maxRecDepth 100000 in
theorem AppendArr_b (w0 w : World) (B g n : Nat) (cs : List Value) (l : List Int) (h : Row8 w0 w B g cs l) (hs : l.length ≤ 1000000) (hn : n ≤ 60000) :
    Calls Try.prog 17 #[.slice (some ⟨g, 0, none⟩) l.length cs.length, .int .u32 (n : Int)] w (AppB w0 B (l ++ encA n)) := by
  obtain ⟨i0, hi0, hz0, hz1, hz2⟩ := info_parts infoU8
  obtain ⟨h1, h2, h3, h4, h5, h6, h7⟩ := h
  have hgl := h4.lt
  have hbl : (bs l).length = l.length := bs_length l
  have HB := Lib.hid h4
  have HW := Lib.hid h1
  have HX : Hid (cs.take (bs l).length = bs l) := by rw [hbl]; exact h7
  have HX0 := Lib.hid h7
  have HBL := Lib.hid hbl
  have h1l := bs_one l
  have H1 := Lib.hid h1l
  clear h4 h1 h7 hbl h1l
  by_cases u0 : n ≤ 15
  · have e : encA n = [144 + (n : Int)] := by unfold encA; rw [if_pos u0]
    rw [e]
    clear e
    have hw8 : IntKind.u8.wrap (n : Int) = n := by rw [IntKind.wrap_u8]; omega
    have qd : decide ((n : Int) ≤ 15) = true := decide_eq_true (by omega)
    go_enter Try.func17, Try.ntmps17
    go_wp2_with (first
      | (go_at_call 30; refine (wfixarr_calls _ n u0).mono ?_; rintro e w' ⟨rfl, rfl⟩)
      | (at_builtin
         go_must (
           (refine wpList_append_any _ rfl (.tmp 23) (.tmp 27) 22 rfl B 5 i0 _ 1 1 Try.underlying22 hi0 hz0 hz1 hz2 rfl (by omega) (.slice (some ⟨g, 0, none⟩) l.length cs.length) l.length (bs l) rfl ?_ (w.heap.size + 1) _ 1 1 [.int .u8 (144 + (n : Int))] rfl (reads_one _ _ _) (by simp; rfl) (by simp only [maxLen]; omega) (by omega) (by simp; omega) ?_)
           · exact (show _ from by
               have ho := blk_own HB.out h2 h5 h6
               rw [HX0.out] at ho
               exact ho.alloc _)
           intro v1 w1 hown1 hg1 hat1)))
    go_ret
    have hne : v1 ≠ .slice none 0 0 := by
      rintro rfl
      rcases hat1 with h | h <;> simp [Value.ownBlock] at h
    have hown : w1.ownsRow B 5 1 v1 (bs l ++ bs [144 + (n : Int)]).length (bs l ++ bs [144 + (n : Int)]) := by
      rw [List.length_append, HBL.out]
      simpa [bs] using hown1
    refine appB2 (app_own hown hne ((HW.out.alloc h3 _).grown hg1 (by simp; omega) (fun k hk => ?_)))
    simp [Value.ownBlock] at hk
    omega
  · have e : encA n = 220 :: be n 2 := by unfold encA; rw [if_neg u0]
    rw [e]
    clear e
    have hw16 : IntKind.u16.wrap (n : Int) = n := by rw [IntKind.wrap_u16]; omega
    have qd : decide ((n : Int) ≤ 15) = false := decide_eq_false (by omega)
    have qe : decide ((n : Int) ≤ 65535) = true := decide_eq_true (by omega)
    have hes := ensure_int w g 3 3 rfl cs (bs l) HB.out HX.out h6 (by rw [HBL.out]; omega) H1.out
    rw [HBL.out] at hes
    have HES := Lib.hid hes
    clear hes
    go_enter Try.func17, Try.ntmps17
    go_wp2_with (first
      | (go_at_call 31
         go_must (
           (refine HES.out.mono ?_)
           rintro e w1 ⟨g', cs', rfl, hb1, hn1, hm1, ht1, hbel, hk⟩
           rw [HBL.out] at hn1 ⊢
           have HB1 := Lib.hid hb1
           have HT1 := Lib.hid ht1
           have HL1 := Lib.hid hbel
           have HK1 := Lib.hid hk
           have hm1' : cs'.length ≤ 9223372036854775807 := by unfold maxLen at hm1; omega
           clear hb1 ht1 hbel hk))
      | (go_at_call 32
         go_must (
           (refine (prefixu16_calls _ g' l.length _ _ 220 (n : Int) cs' HB1.out (by omega) (by omega) hm1 (by omega) (by omega)).mono ?_)
           rintro e w2 ⟨rfl, hb2, hg2, hs2⟩
           have HB2 := Lib.hid hb2
           have HG2 := Lib.hid hg2
           clear hb2 hg2 hs2)))
    go_ret
    have ha := app_wrote (xs := bs l) (news := bs (220 :: be (n : Int) 2)) HW.out h2 h3 HL1.out HK1.out (by rw [HBL.out]; simpa [bs_length, be_length] using hn1) hm1 HT1.out (by rw [HBL.out]; exact HB2.out) HG2.out
    rw [HBL.out] at ha
    refine appB2 ?_
    simpa [bs_length, be_length] using ha
end Go.Proofs.Ytfhaddnacdjpoaa
