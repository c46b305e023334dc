/- The law FnPutTimeExt: a time that is appended is read back as the timestamp extension. PRINTED by wip/genth.py. -/
import Derived.Test.YtgjkbldgpfaemaaDoorTg
import Derived.Deep.RegionHeld3
import Derived.Lib.SlBytesConst
namespace Go.Proofs.YtgjkbldgpfaemaaDoor
open Go.RowKit
set_option linter.unusedVariables false

theorem step_append_fresh {w W : World} {A : Option Addr} {l : List Int} {c : Nat} {ops : Array Oper} {o : Oper} {a : Act} {K : Act → World → Prop} {Q : Exit → Act → World → Prop} {E : Prop} (hgd : o.guard = none) (s x : Operand)
    (ho : o.op = .call { callee := .builtin .append, args := #[s, x], argTypes := #[22, 22] }) (hs : a.eval s = .slice (some ⟨W.heap.size, 0, none⟩) 0 0) (hx : a.eval x = .slice A l.length c)
    (hw : w = W.alloc (.cells #[] 5)) (hr : Reads W W.heap.size 1 A l.length (bs l)) (hn : l.length ≤ 70368744177664)
    (h : ∀ g cs w', Hid (Blk w' g 5 cs) → l.length ≤ cs.length → cs.length ≤ maxLen → Hid (cs.take l.length = bs l) → W.heap.size ≤ g → Below W.heap.size W w' → K (a.put o.dst (.slice (some ⟨g, 0, none⟩) l.length cs.length)) w') :
    if Region.wanted o (yielded ops a.tmps) = true then Oper.wp Tryd.prog o a w K Q else E := by
  have hwd : Region.wanted o (yielded ops a.tmps) = true := by simp [Region.wanted, hgd]
  rw [if_pos hwd]
  subst hw
  obtain ⟨i0, hi0, hz0, hz1, hz2⟩ := info_parts infoU8
  refine wp_append_any _ s x _ ho W.heap.size 5 i0 _ 1 1 Tryd.underlying22 hi0 hz0 hz1 hz2 rfl (by omega) _ 0 [] hs (World.ownsRow_made W _ 0 (Nat.le_refl _) (by simp) (by simp)) W.heap.size A l.length c (bs l) hx (hr.alloc (Nat.le_refl _) _) (bs_one l) (by simp only [maxLen]; omega) (by omega) (by simp) ?_
  intro v1 w1 hown1 hg1 hat1
  have hne : v1 ≠ .slice none 0 0 := by
    rintro rfl
    rcases hat1 with h | h <;> simp [Value.ownBlock] at h
  have hown : w1.ownsRow W.heap.size 5 1 v1 l.length (bs l) := by simpa using hown1
  obtain ⟨g, cs, hv, hk, hB, hn, hm, ht⟩ := own_blk hown (.inr hne)
  rw [hv]
  refine h g cs w1 hk hn hm ht hB (((Below.refl _ _).alloc (Nat.le_refl _) _).grown hg1 (by simp) (fun k hk => ?_))
  simp [Value.ownBlock] at hk
  omega

set_option maxHeartbeats 4000000 in
set_option maxRecDepth 100000 in
theorem FnPutTimeExt_walk (w : World) (A : Option Addr) (c : Nat) (l : List Int) (sec n : Int) (h : Reads w w.heap.size 1 A l.length (bs l)) (hc : l.length ≤ c) (hG : 0 < w.heap.size) (hv : w.cell? ⟨0, 0, none⟩ = some (.int .i8 (-1))) (s0 : -9223372036854775808 ≤ sec) (s1 : sec ≤ 9223372036854775807) (m0 : -2147483648 ≤ n) (m1 : n ≤ 2147483647) :
    Calls Tryd.prog 3 #[.slice A l.length c, .int .i64 sec, .int .i32 n] w fun e w' => e = .returned (.bool true) ∧ Below w.heap.size w w' := by
  have H := Lib.hid h
  clear h
  by_cases hz : 2147483647 < l.length
  · have hd : decide ((2147483647 : Int) < (l.length : Int)) = true := by simp; omega
    go_enter Tryd.func3, Tryd.ntmps3
    go_wp2
    go_ret
    exact ⟨rfl, Below.refl _ _⟩
  have hd : decide ((2147483647 : Int) < (l.length : Int)) = false := by simp; omega
  by_cases hf : l.length ≤ 200
  · by_cases hmo : 0 ≤ n ∧ n < 1000000000 ∧ -68719476736 < sec ∧ sec < 68719476736
    · obtain ⟨n0, n1, t0, t1⟩ := hmo
      obtain ⟨hx1, hx2⟩ := tExt_len sec n
      go_enter Tryd.func3, Tryd.ntmps3
      go_wp2_with (first
        | (have _t := H
           go_at_call 4
           go_must (
             (refine (PutTimeExt_awake _ hG hv).mono ?_)
             rintro e w1 ⟨g1, cs1, rfl, hb1, hn1, hm1, ht1, hB1, hbel1⟩
             rw [show ([215, 255] ++ be 34359738369 8 : List Int).length = 10 by simp [be_length]]
             have HBEL1 := Lib.hid hbel1
             have H1 : Hid (Reads w1 w1.heap.size 1 A l.length (bs l)) := (H.out.below hbel1).more hbel1.size
             have hG1 : 0 < w1.heap.size := Nat.lt_of_lt_of_le hG hbel1.size
             have HV1 := Lib.hid ((hbel1.cell (p := ⟨0, 0, none⟩) hG).trans hv)
             clear H hb1 ht1 hbel1 hn1))
        | (go_at_call 5
           go_must (
             (refine (few_yes _ _ _ _ hf).mono ?_)
             rintro e w' ⟨rfl, rfl⟩))
        | (go_at_call 6
           go_must (
             (refine (moment_yes _ _ _ n0 n1 t0 t1).mono ?_)
             rintro e w' ⟨rfl, rfl⟩))
        | (at_builtin
           go_must (
             (refine wpList_append_fresh (W := w1) rfl _ _ rfl rfl rfl rfl H1.out (by omega) ?_)
             intro g2 cs2 w2 HB2 hn2 hm2 HT2 hB2 HBEL2))
        | (have _t := HB2
           go_at_call 4
           go_must (
             (have hG2 : 0 < w2.heap.size := Nat.lt_of_lt_of_le hG1 HBEL2.out.size)
             have hv2 := (HBEL2.out.cell (p := ⟨0, 0, none⟩) hG1).trans HV1.out
             refine (PutTimeExt_calls w2 _ _ l sec n (bs_reads HB2.out hn2 HT2.out) (by omega) hG2 hv2 n0 n1 t0 t1).mono ?_
             rintro e w3 ⟨g3, cs3, rfl, hb3, hn3, hm3, ht3, hB3, hbel3⟩
             have hr3 := bs_reads hb3 hn3 ht3
             have ha3 : Reads w3 w3.heap.size 1 A l.length (bs l) := (((H1.out.below HBEL2.out).more HBEL2.out.size).below hbel3).more hbel3.size
             have R1 : Reads w3 w3.heap.size 1 (some ⟨g3, 0, none⟩) l.length (bs l) := by
               have := hr3.take1 (k := l.length) (by simp)
               rwa [bs_take, List.take_left' rfl] at this
             have hcA : ∀ k c, (convert 22 9 (.slice A l.length c)).run Tryd.prog (w3.drewN k) = .ok (.string (strOfNums l)) (w3.drewN k) := fun k c => conv_reads (ha3.drewN k) _ _ _ Tryd.underlying22 Tryd.underlying5 Tryd.underlying9
             have hcO : ∀ k c, (convert 22 9 (.slice (some ⟨g3, 0, none⟩) l.length c)).run Tryd.prog (w3.drewN k) = .ok (.string (strOfNums l)) (w3.drewN k) := fun k c => conv_reads (R1.drewN k) _ _ _ Tryd.underlying22 Tryd.underlying5 Tryd.underlying9
             have hla : (l ++ tExt sec n).length = l.length + (tExt sec n).length := List.length_append
             rw [hla] at hn3 ⊢
             have hm3' : cs3.length ≤ 9223372036854775807 := by simp only [maxLen] at hm3; omega
             have HR3 : Hid (Reads w3 w3.heap.size 1 (some ⟨g3, l.length, none⟩) (tExt sec n).length (bs (tExt sec n))) := by
               have := reads_cut (k := l.length) (c := cs3.length) hr3 (by simp) (by simpa using hn3) rfl
               rw [if_neg (by omega), List.drop_left' rfl, Option.map_some, add_lit, Nat.zero_add] at this
               exact Lib.hid this
             have HBEL3 : Hid (Below w.heap.size w w3) := (HBEL1.out.trans (HBEL2.out.mono HBEL1.out.size)).trans (hbel3.mono (Nat.le_trans HBEL1.out.size HBEL2.out.size))
             obtain ⟨T, hT⟩ : ∃ T, T = (tExt sec n).length := ⟨_, rfl⟩
             rw [← hT] at hn3 hx1 hx2 ⊢
             have HTL := Lib.hid hT
             clear HB2 hb3 ht3 hbel3 hr3 ha3 R1 hla hT)))
      obtain ⟨ST, hST⟩ : ∃ ST, ST = strOfNums (tData sec n) := ⟨_, rfl⟩
      have HST := Lib.hid hST
      clear hST
      have hlt0 : decide (l.length + T < l.length) = false := by simp
      have hlt1 : decide ((l.length : Int) + (T : Int) < (l.length : Int)) = false := decide_eq_false (by omega)
      have hne : ¬ cs3.length = l.length := by omega
      have hwn : IntKind.i32.wrap n = n := by rw [IntKind.wrap_i32]; omega
      go_quiet (fail)
      go_wp2_with (first
        | (go_at_call 7
           go_must (
             (have htk := take_ext sec n n0 n1 t0 t1 (w3.drewN nq) w3.heap.size (cs3.length - l.length) (some ⟨g3, l.length, none⟩) (HR3.out.drewN nq) (Nat.le_refl _) (by rw [← HTL.out]; omega) (by simp only [maxLen]; omega))
             rw [← HTL.out, ← HST.out] at htk
             unfold pk at htk
             refine htk.mono ?_
             rintro e w4 ⟨A', c', rfl, hl', hcm', hr', hbel4⟩
             have HBEL4 := Lib.hid hbel4
             clear hr' hbel4))
        | (go_at_call 8
           go_must (
             (rw [HST.out])
             refine (Moment_data _ sec n n0 n1 t0 t1).mono ?_
             rintro e w5 ⟨rfl, hbel5⟩
             have hblk := (Blk.new w4 29 [.int .i64 10, .int .u64 0, .string (strOfNums (tData sec n)), .int .i64 (-1), .slice none 0 0]).below hbel5 (by simp)
             obtain ⟨q0, q1, q2, q3, q4⟩ := blk_cells5 hblk
             have HBEL5 : Hid (Below w.heap.size w w5) := (((HBEL3.out.trans ((below_drewN (Below.refl _ w3) nq).trans HBEL4.out |>.mono HBEL3.out.size))).alloc (Nat.le_trans HBEL3.out.size HBEL4.out.size) _).trans (hbel5.mono (by have := HBEL3.out.size; have := HBEL4.out.size; simp at this ⊢; omega))
             clear hbel5 hblk)))
      go_ret
      exact ⟨rfl, HBEL5.out⟩
    · go_enter Tryd.func3, Tryd.ntmps3
      go_wp2_with (first
        | (go_at_call 4
           go_must (
             (refine (PutTimeExt_awake _ hG hv).mono ?_)
             rintro e w1 ⟨g1, cs1, rfl, hb1, hn1, hm1, ht1, hB1, hbel1⟩
             have HBEL1 := Lib.hid hbel1
             clear hb1 ht1 hbel1))
        | (go_at_call 5
           go_must (
             (refine (few_yes _ _ _ _ hf).mono ?_)
             rintro e w' ⟨rfl, rfl⟩))
        | (go_at_call 6
           go_must (
             (refine (moment_no _ _ _ hmo).mono ?_)
             rintro e w' ⟨rfl, rfl⟩)))
      go_ret
      exact ⟨rfl, HBEL1.out⟩
  · go_enter Tryd.func3, Tryd.ntmps3
    go_wp2_with (
      first
        | (go_at_call 4
           go_must (
             (refine (PutTimeExt_awake _ hG hv).mono ?_)
             rintro e w1 ⟨g1, cs1, rfl, hb1, hn1, hm1, ht1, hB1, hbel1⟩
             have HBEL1 := Lib.hid hbel1
             clear hb1 ht1 hbel1))
        | (go_at_call 5
           go_must (
             (refine (few_no _ _ _ _ hf).mono ?_)
             rintro e w' ⟨rfl, rfl⟩)))
    go_ret
    exact ⟨rfl, HBEL1.out⟩

end Go.Proofs.YtgjkbldgpfaemaaDoor
