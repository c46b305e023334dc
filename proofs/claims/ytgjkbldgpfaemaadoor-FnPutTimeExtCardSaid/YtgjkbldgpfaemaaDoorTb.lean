/- msgp.AppendTimeExt, one of its three forms. PRINTED by wip/gent.py. -/
import Derived.Test.YtgjkbldgpfaemaaDoorTa
namespace Go.Proofs.YtgjkbldgpfaemaaDoor
open Go.RowKit
set_option linter.unusedVariables false

set_option maxHeartbeats 4000000 in
set_option maxRecDepth 100000 in
theorem AppendTimeExt_4 (w0 w : World) (B g : Nat) (sec n : Int) (cs : List Value) (l : List Int) (hw0 : Below B w0 w) (hB : B ≤ g) (hBw : B ≤ w.heap.size) (hb : Blk w g 5 cs) (hx : cs.take l.length = bs l) (hm : cs.length ≤ maxLen) (hs : l.length ≤ 1099000000000) (hG : 0 < B) (hv : w0.cell? ⟨0, 0, none⟩ = some (.int .i8 (-1))) (n0 : 0 ≤ n) (n1 : n < 1000000000) (s0 : 0 < sec) (s1 : sec ≤ 4294967295) (hn : n = 0) :
    Calls Tryd.prog 9 #[.slice (some ⟨g, 0, none⟩) l.length cs.length, .agg #[.int .i64 sec, .int .i64 n]] w (AppB w0 B (l ++ ([214, 255] ++ be sec 4))) := by
  have hgl := hb.lt
  have HV : ∀ W, Below B w0 W → W.cell? ⟨0, 0, none⟩ = some (.int .i8 (-1)) := fun W hW => (hW.cell hG).trans hv
  have hld : ∀ w, (loadVar 55 ⟨1, 0, none⟩).run Tryd.prog w = .ok (.agg #[]) w := fun w => by kernel_rfl
  have HB := Lib.hid hb
  have HX := Lib.hid hx
  have HW0 := Lib.hid hw0
  clear hb hx hw0 hv
  have hd : decide (sec ≤ 4294967295) = true := by simp; omega
  have hd2 : decide (0 < sec) = true := by simp; omega
  have hz1 : (n == 0) = true := by rw [hn]; rfl
  clear hn
  all_goals
    go_enter Tryd.func9, Tryd.ntmps9
    go_wp2_with (first
      | (go_at_call 16
         go_must (
           (refine (Truncate_calls _ _ _ _).mono ?_)
           rintro e w1 ⟨rfl, hb1⟩
           have hblk1 := (Blk.new w 39 [.int .i64 sec, .int .i64 n]).below hb1 (by simp)
           have q0 := hblk1.cell 0
           have q1 := hblk1.cell 1
           simp only [List.getElem?_cons_zero, List.getElem?_cons_succ] at q0 q1
           have hz1' := hblk1.lt
           have HBEL1 : Hid (Below w.heap.size w w1) := ((Below.refl _ w).alloc (Nat.le_refl _) _).trans (hb1.mono (by simp))
           clear hb1 hblk1))
      | (go_at_call 17
         go_must (
           (refine (Sub_calls _ _ _ n0 n1).mono ?_)
           rintro e w2 ⟨rfl, hb2⟩
           have hblk2 := (Blk.new w1 39 [.int .i64 sec, .int .i64 0]).below hb2 (by simp)
           have r0 := hblk2.cell 0
           have r1 := hblk2.cell 1
           simp only [List.getElem?_cons_zero, List.getElem?_cons_succ] at r0 r1
           have hz2' := hblk2.lt
           clear hblk2
           have HBEL2 : Hid (Below w.heap.size w w2) := (HBEL1.out.alloc HBEL1.out.size _).trans (hb2.mono (by have := HBEL1.out.size; simp; omega))
           clear hb2))
      | (go_at_call 19
         go_must (
           (refine (Unix_calls _ _ _).mono ?_)
           rintro e w3 ⟨rfl, hb3⟩
           have HBEL3 : Hid (Below w.heap.size w w3) := HBEL2.out.trans (hb3.mono HBEL2.out.size)
           have HW3 : Hid (Below B w0 w3) := HW0.out.trans (HBEL3.out.mono hBw)
           clear hb3 q0 q1 r0 r1))
      | (go_at_call 18
         go_must (
           (refine (Nanoseconds_calls _ _).mono ?_)
           rintro e w' ⟨rfl, rfl⟩))
      | (go_at_call 20
         go_must (
           (refine (ensure_b _ g 6 _ rfl cs l (HB.out.below HBEL3.out hgl) HX.out hm (by omega)).mono ?_)
           rintro e w4 ⟨g', cs', rfl, hb4, hn4, hm4, ht4, hbel4, hk4⟩
           have hk4' : g' = g ∨ w.heap.size ≤ g' := by rcases hk4 with h | h; exact .inl h; exact .inr (by have := HBEL3.out.size; omega)
           have HK4 := Lib.hid hk4'
           have hgB : B ≤ g' := by rcases hk4' with h | h <;> omega
           have hG' : ¬ 0 = g' := by omega
           have hm4' : cs'.length ≤ 9223372036854775807 := by unfold maxLen at hm4; omega
           obtain ⟨x0, c0⟩ := blk_at hb4 (l.length) (by omega)
           obtain ⟨x1, c1⟩ := blk_at hb4 (l.length + 1) (by omega)
           have f0 := hb4.frozen (l.length)
           have f1 := hb4.frozen (l.length + 1)
           have HW4 : Hid (Below B w0 w4) := HW3.out.trans (hbel4.mono (by have := HBEL3.out.size; omega))
           have hv4 := HV _ HW4.out
           have HB4 := Lib.hid hb4
           have HT4 := Lib.hid ht4
           clear hb4 ht4 hbel4 hk4 hk4')))
    have kA0 : Below B w0 ((w4.setCell ⟨g', l.length, none⟩ (.int .u8 214)).setCell ⟨g', l.length + 1, none⟩ (.int .u8 255)) := ((HW4.out.setCell hgB _).setCell hgB _)
    have kB0 := kA0.drew
    have hb5 : Blk ((w4.setCell ⟨g', l.length, none⟩ (.int .u8 214)).setCell ⟨g', l.length + 1, none⟩ (.int .u8 255)) g' 5 (splice cs' l.length [.int .u8 214, .int .u8 255]) := wr_blk g' _ [.int .u8 214, .int .u8 255] w4 cs' l.length HB4.out (by simp; omega)
    have hl5 : (splice cs' l.length [.int .u8 214, .int .u8 255]).length = cs'.length := length_splice _ _ _ (by simp; omega)
    have HB5 := Lib.hid hb5
    clear hb5
    have hj0_0 : (0 : Int) ≤ (l.length : Int) + 2 := by omega
    have hj1_0 : (l.length : Int) + 2 ≤ (l.length : Int) + 6 := by omega
    have hj2_0 : l.length + 2 ≤ l.length + 6 := by omega
    have hj3_0 : l.length + 2 ≤ cs'.length := by omega
    have hj4_0 : (l.length : Int) + 2 ≤ (cs'.length : Int) := by omega
    have hj5_0 : ¬ cs'.length = l.length + 2 := by omega
    have hj6_0 : IntKind.i64.wrap ((l.length : Int) + 2) = (l.length : Int) + 2 := by rw [IntKind.wrap_i64]; omega
    have hj7_0 : ((l.length : Int) + 2).toNat = l.length + 2 := by omega
    have hj8_0 : l.length + 6 - (l.length + 2) = 4 := by omega
    have hwr : IntKind.u32.wrap sec = sec := by rw [IntKind.wrap_u32]; omega
    go_region_held3 (fun W => Below B w0 W) (first | assumption | exact kA0 | exact kB0) (first
      | (go_at_call 21
         refine (PutUint32_b _ g' (l.length + 2) _ _ _ _ (HB5.out.drewN 1) (by omega) (by omega) (by omega) (by omega) (by omega)).mono ?_
         rintro e w5 ⟨rfl, hb6, hg6⟩
         have hS5 : Below B w0 w5 := kB0.grown hg6 (by have := HB5.out.lt; simp at this ⊢; omega) (fun k hk => by injection hk with e; omega)
         have HB6 := Lib.hid hb6
         clear hb6 hg6))
    go_wp2
    go_ret
    have e1 := splice_splice [.int .u8 214, .int .u8 255] cs' l.length (bs (be sec 4)) (by simp [bs_length, be_length]; omega)
    simp only [List.length_cons, List.length_nil, Nat.reduceAdd] at e1
    refine app_sp hgB hS5 ?_ (by simp [be_length]; omega) hm4 HT4.out _ (by simp [be_length])
    have hfin := HB6.out
    first
      | exact hfin
      | (rw [e1] at hfin; exact hfin)
      | (rw [e1] at hfin; simpa [bs] using hfin)
end Go.Proofs.YtgjkbldgpfaemaaDoor
