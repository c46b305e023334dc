/- msgp.AppendBytes: a head and the bytes behind it. PRINTED by wip/genbin.py. -/
import Derived.Test.YtgjkbldgpfaemaaKk
namespace Go.Proofs.Ytgjkbldgpfaemaa
open Go.RowKit
set_option linter.unusedVariables false

/-- What 'ensure' leaves, over bytes. -/
def EnsuredB (w : World) (g : Nat) (l : List Int) (sz : Nat) (e : Ending) (w' : World) : Prop :=
  ∃ g' cs', e = .returned (.tuple #[.slice (some ⟨g', 0, none⟩) (l.length + sz) cs'.length, .int .i64 l.length]) ∧ Blk w' g' 5 cs' ∧ l.length + sz ≤ cs'.length ∧ cs'.length ≤ maxLen ∧ cs'.take l.length = bs l ∧
    Below w.heap.size w w' ∧ (g' = g ∨ g' = w.heap.size)
theorem ensure_b (w : World) (g sz : Nat) (z : Int) (hz : z = (sz : Int)) (cs : List Value) (l : List Int) (hb : Blk w g 5 cs) (hx : cs.take l.length = bs l) (hm : cs.length ≤ maxLen) (hs : l.length + sz ≤ 1099511627776) :
    Calls Try.prog 33 #[.slice (some ⟨g, 0, none⟩) l.length cs.length, .int .i64 z] w (EnsuredB w g l sz) := by
  have e := ensure_int w g sz z hz cs (bs l) hb (by rw [bs_length]; exact hx) hm (by rw [bs_length]; exact hs) (bs_one l)
  unfold Ensured at e
  rw [bs_length] at e
  exact e

def binHead (n : Int) : List Int := if n ≤ 255 then 196 :: be n 1 else if n ≤ 65535 then 197 :: be n 2 else 198 :: be n 4
theorem splice_take (cs : List Value) (n : Nat) (news : List Value) (h : n + news.length ≤ cs.length) : (splice cs n news).take (n + news.length) = cs.take n ++ news := by
  unfold splice
  rw [← List.append_assoc, List.take_left' (by simp; omega)]

/-- Behind two writes, the second behind the first. -/
theorem app_two {w0 w w1 w2 w3 : World} {B g g' : Nat} {cs' : List Value} {l hd r : List Int} (hw0 : Below B w0 w) (hB : B ≤ g) (hBw : B ≤ w.heap.size) (hb : Below w.heap.size w w1) (hk : g' = g ∨ g' = w.heap.size) (hn : l.length + (hd.length + r.length) ≤ cs'.length) (hm : cs'.length ≤ maxLen) (ht : cs'.take l.length = bs l)
    (hg : w1.grownBy w2 (some g')) (hblk : w3.heap[g']? = some (.cells (splice (splice cs' l.length (bs hd)) (l.length + hd.length) (bs r)).toArray 5 (0, 0))) (hg2 : Below B w0 w3) (v : Value)
    (hv : v = .slice (some ⟨g', 0, none⟩) (l.length + hd.length + r.length) cs'.length) :
    AppB w0 B (l ++ (hd ++ r)) (.returned v) w3 := by
  have hg' : B ≤ g' := by rcases hk with rfl | rfl <;> omega
  have l1 : (splice cs' l.length (bs hd)).length = cs'.length := length_splice _ _ _ (by rw [bs_length]; omega)
  have l2 : (splice (splice cs' l.length (bs hd)) (l.length + hd.length) (bs r)).length = cs'.length := by rw [length_splice _ _ _ (by rw [bs_length, l1]; omega), l1]
  have t1 := splice_take cs' l.length (bs hd) (by rw [bs_length]; omega)
  have t2 := splice_take (splice cs' l.length (bs hd)) (l.length + hd.length) (bs r) (by rw [bs_length, l1]; omega)
  rw [bs_length] at t1 t2
  have hl : (l ++ (hd ++ r)).length = l.length + hd.length + r.length := by simp; omega
  refine ⟨g', splice (splice cs' l.length (bs hd)) (l.length + hd.length) (bs r), by rw [hv, l2, hl], hblk, by rw [l2, hl]; omega, by rw [l2]; exact hm, ?_, hg', hg2⟩
  rw [hl, t2, t1, ht, bs_append, bs_append, List.append_assoc]

theorem dp_pos {g n c m : Nat} (h : 0 < m → n + m ≤ c) (hm : 0 < m) : (if c = n then some (⟨g, 0, none⟩ : Addr) else some ⟨g, n, none⟩) = some ⟨g, n, none⟩ := by
  rw [if_neg (by have := h hm; omega)]

set_option maxHeartbeats 1000000 in
theorem AppendBytes_b (w0 w : World) (B g c : Nat) (A : Option Addr) (cs : List Value) (l r : List Int) (hw0 : Below B w0 w) (hB : B ≤ g) (hBw : B ≤ w.heap.size) (hb : Blk w g 5 cs) (hx : cs.take l.length = bs l) (hm : cs.length ≤ maxLen) (hs : l.length ≤ 1099000000000) (hr : Reads w B 1 A r.length (bs r)) (hrl : r.length ≤ 16777216) :
    Calls Try.prog 25 #[.slice (some ⟨g, 0, none⟩) l.length cs.length, .slice A r.length c] w (AppB w0 B (l ++ (binHead r.length ++ r))) := by
  have hn : l.length ≤ cs.length := by
    have := congrArg List.length hx
    rw [List.length_take, bs_length] at this
    omega
  have hgl := hb.lt
  have HB := Lib.hid hb
  have HX := Lib.hid hx
  have HR := Lib.hid hr
  have HW0 := Lib.hid hw0
  clear hb hx hr hw0 hn
  by_cases u0 : (r.length : Int) ≤ 255
  · have e : binHead r.length = 196 :: be r.length 1 := by unfold binHead; rw [if_pos u0]
    rw [e]
    clear e
    go_enter Try.func25, Try.ntmps25
    go_wp2_with (first
      | (go_at_call 33
         go_must (
           (refine (ensure_b _ g (2 + r.length) _ (by omega) cs l HB.out HX.out hm (by omega)).mono ?_)
           rintro e w1 ⟨g', cs', rfl, hb1, hn1, hm1, ht1, hbel, hk⟩
           have HB1 := Lib.hid hb1
           have HT1 := Lib.hid ht1
           have HL1 := Lib.hid hbel
           have HK1 := Lib.hid hk
           have hm1' : cs'.length ≤ 9223372036854775807 := by unfold maxLen at hm1; omega
           have hgB : B ≤ g' := by rcases hk with h | h <;> omega
           clear hb1 ht1 hbel hk))
      | (go_at_call 34
         go_must (
           (refine (prefixu8_calls _ g' l.length _ _ 196 _ cs' HB1.out (by omega) (by omega) hm1 (by omega) (by omega)).mono ?_)
           rintro e w2 ⟨rfl, hb2, hg2, hs2⟩
           have HB2 := Lib.hid hb2
           have HG2 := Lib.hid hg2
           have HBL : Hid (Below B w0 w2) := (HW0.out.trans (HL1.out.mono hBw)).grown hg2 (by have := HL1.out.size; omega) (fun k hk' => by injection hk' with e; omega)
           have HR2 : Hid (∀ j v, (bs r)[j]? = some v → 0 < r.length → ∃ ad, A = some ad ∧ w2.cell? (ad.add j) = some v) := fun j v hv h0 => by
             obtain ⟨ad, hA, _, hc⟩ := (HR.out.below ((HL1.out.mono hBw).grown hg2 (by have := HL1.out.size; omega) (fun k hk' => by injection hk' with e; omega))).2 h0
             exact ⟨ad, hA, hc j v hv⟩
           clear hb2 hg2 hs2))
      | ((with_reducible refine gate_dst (N := 67) rfl ?_)
         go_must (
           (refine wpList_copy_splice rfl (.tmp 65) (.tmp 66) 22 22 rfl 5 Try.underlying22 (by kernel_rfl) _ _ _ _ _ _ rfl rfl g' (l.length + 2) (splice cs' l.length (bs (196 :: be (r.length : Int) 1))) 5 HB2.out (bs r) ?_ ?_ ?_ (bs_one r) B w0 HBL.out hgB ?_)
           · rw [bs_length]; exact (Nat.min_eq_left (by omega)).symm
           · intro h0
             rw [bs_length] at h0
             have hr0 : (bs r)[0]? = some (.int .u8 (r.getD 0 0)) := by simp [bs, List.getElem?_eq_getElem h0, List.getD_eq_getElem?_getD]
             obtain ⟨ad, hA, _⟩ := HR2.out 0 _ hr0 h0
             refine ⟨by first | rfl | exact dp_pos (fun _ => by omega) h0 | (rw [if_neg (by omega)]), ad, hA, fun j v hv => ?_⟩
             obtain ⟨ad', hA', hc⟩ := HR2.out j v hv h0
             rw [hA] at hA'
             injection hA' with e
             subst e
             exact hc
           · rw [length_splice _ _ _ (by rw [bs_length]; simp [be_length]; omega), bs_length]; omega
           intro w3 hb3 hbel3
           rw [bs_length]
           have HBEL3 := Lib.hid hbel3
           clear hbel3)))
    all_goals
      go_ret
      exact app_two (hd := 196 :: be (r.length : Int) 1) HW0.out hB hBw HL1.out HK1.out (by simp [be_length]; omega) hm1 HT1.out HG2.out (by simpa [be_length] using hb3.out) HBEL3.out _ (by simp [be_length] <;> first | rfl | omega)
  · by_cases u1 : (r.length : Int) ≤ 65535
    · have e : binHead r.length = 197 :: be r.length 2 := by unfold binHead; rw [if_neg u0, if_pos u1]
      rw [e]
      clear e
      go_enter Try.func25, Try.ntmps25
      go_wp2_with (first
        | (go_at_call 33
           go_must (
             (refine (ensure_b _ g (3 + r.length) _ (by omega) cs l HB.out HX.out hm (by omega)).mono ?_)
             rintro e w1 ⟨g', cs', rfl, hb1, hn1, hm1, ht1, hbel, hk⟩
             have HB1 := Lib.hid hb1
             have HT1 := Lib.hid ht1
             have HL1 := Lib.hid hbel
             have HK1 := Lib.hid hk
             have hm1' : cs'.length ≤ 9223372036854775807 := by unfold maxLen at hm1; omega
             have hgB : B ≤ g' := by rcases hk with h | h <;> omega
             clear hb1 ht1 hbel hk))
        | (go_at_call 35
           go_must (
             (refine (prefixu16_calls _ g' l.length _ _ 197 _ cs' HB1.out (by omega) (by omega) hm1 (by omega) (by omega)).mono ?_)
             rintro e w2 ⟨rfl, hb2, hg2, hs2⟩
             have HB2 := Lib.hid hb2
             have HG2 := Lib.hid hg2
             have HBL : Hid (Below B w0 w2) := (HW0.out.trans (HL1.out.mono hBw)).grown hg2 (by have := HL1.out.size; omega) (fun k hk' => by injection hk' with e; omega)
             have HR2 : Hid (∀ j v, (bs r)[j]? = some v → 0 < r.length → ∃ ad, A = some ad ∧ w2.cell? (ad.add j) = some v) := fun j v hv h0 => by
               obtain ⟨ad, hA, _, hc⟩ := (HR.out.below ((HL1.out.mono hBw).grown hg2 (by have := HL1.out.size; omega) (fun k hk' => by injection hk' with e; omega))).2 h0
               exact ⟨ad, hA, hc j v hv⟩
             clear hb2 hg2 hs2))
        | ((with_reducible refine gate_dst (N := 67) rfl ?_)
           go_must (
             (refine wpList_copy_splice rfl (.tmp 65) (.tmp 66) 22 22 rfl 5 Try.underlying22 (by kernel_rfl) _ _ _ _ _ _ rfl rfl g' (l.length + 3) (splice cs' l.length (bs (197 :: be (r.length : Int) 2))) 5 HB2.out (bs r) ?_ ?_ ?_ (bs_one r) B w0 HBL.out hgB ?_)
             · rw [bs_length]; exact (Nat.min_eq_left (by omega)).symm
             · intro h0
               rw [bs_length] at h0
               have hr0 : (bs r)[0]? = some (.int .u8 (r.getD 0 0)) := by simp [bs, List.getElem?_eq_getElem h0, List.getD_eq_getElem?_getD]
               obtain ⟨ad, hA, _⟩ := HR2.out 0 _ hr0 h0
               refine ⟨by first | rfl | exact dp_pos (fun _ => by omega) h0 | (rw [if_neg (by omega)]), ad, hA, fun j v hv => ?_⟩
               obtain ⟨ad', hA', hc⟩ := HR2.out j v hv h0
               rw [hA] at hA'
               injection hA' with e
               subst e
               exact hc
             · rw [length_splice _ _ _ (by rw [bs_length]; simp [be_length]; omega), bs_length]; omega
             intro w3 hb3 hbel3
             rw [bs_length]
             have HBEL3 := Lib.hid hbel3
             clear hbel3)))
      all_goals
        go_ret
        exact app_two (hd := 197 :: be (r.length : Int) 2) HW0.out hB hBw HL1.out HK1.out (by simp [be_length]; omega) hm1 HT1.out HG2.out (by simpa [be_length] using hb3.out) HBEL3.out _ (by simp [be_length] <;> first | rfl | omega)
    · have e : binHead r.length = 198 :: be r.length 4 := by unfold binHead; rw [if_neg u0, if_neg u1]
      rw [e]
      clear e
      go_enter Try.func25, Try.ntmps25
      go_wp2_with (first
        | (go_at_call 33
           go_must (
             (refine (ensure_b _ g (5 + r.length) _ (by omega) cs l HB.out HX.out hm (by omega)).mono ?_)
             rintro e w1 ⟨g', cs', rfl, hb1, hn1, hm1, ht1, hbel, hk⟩
             have HB1 := Lib.hid hb1
             have HT1 := Lib.hid ht1
             have HL1 := Lib.hid hbel
             have HK1 := Lib.hid hk
             have hm1' : cs'.length ≤ 9223372036854775807 := by unfold maxLen at hm1; omega
             have hgB : B ≤ g' := by rcases hk with h | h <;> omega
             clear hb1 ht1 hbel hk))
        | (go_at_call 36
           go_must (
             (refine (prefixu32_calls _ g' l.length _ _ 198 _ cs' HB1.out (by omega) (by omega) hm1 (by omega) (by omega)).mono ?_)
             rintro e w2 ⟨rfl, hb2, hg2, hs2⟩
             have HB2 := Lib.hid hb2
             have HG2 := Lib.hid hg2
             have HBL : Hid (Below B w0 w2) := (HW0.out.trans (HL1.out.mono hBw)).grown hg2 (by have := HL1.out.size; omega) (fun k hk' => by injection hk' with e; omega)
             have HR2 : Hid (∀ j v, (bs r)[j]? = some v → 0 < r.length → ∃ ad, A = some ad ∧ w2.cell? (ad.add j) = some v) := fun j v hv h0 => by
               obtain ⟨ad, hA, _, hc⟩ := (HR.out.below ((HL1.out.mono hBw).grown hg2 (by have := HL1.out.size; omega) (fun k hk' => by injection hk' with e; omega))).2 h0
               exact ⟨ad, hA, hc j v hv⟩
             clear hb2 hg2 hs2))
        | ((with_reducible refine gate_dst (N := 67) rfl ?_)
           go_must (
             (refine wpList_copy_splice rfl (.tmp 65) (.tmp 66) 22 22 rfl 5 Try.underlying22 (by kernel_rfl) _ _ _ _ _ _ rfl rfl g' (l.length + 5) (splice cs' l.length (bs (198 :: be (r.length : Int) 4))) 5 HB2.out (bs r) ?_ ?_ ?_ (bs_one r) B w0 HBL.out hgB ?_)
             · rw [bs_length]; exact (Nat.min_eq_left (by omega)).symm
             · intro h0
               rw [bs_length] at h0
               have hr0 : (bs r)[0]? = some (.int .u8 (r.getD 0 0)) := by simp [bs, List.getElem?_eq_getElem h0, List.getD_eq_getElem?_getD]
               obtain ⟨ad, hA, _⟩ := HR2.out 0 _ hr0 h0
               refine ⟨by first | rfl | exact dp_pos (fun _ => by omega) h0 | (rw [if_neg (by omega)]), ad, hA, fun j v hv => ?_⟩
               obtain ⟨ad', hA', hc⟩ := HR2.out j v hv h0
               rw [hA] at hA'
               injection hA' with e
               subst e
               exact hc
             · rw [length_splice _ _ _ (by rw [bs_length]; simp [be_length]; omega), bs_length]; omega
             intro w3 hb3 hbel3
             rw [bs_length]
             have HBEL3 := Lib.hid hbel3
             clear hbel3)))
      all_goals
        go_ret
        exact app_two (hd := 198 :: be (r.length : Int) 4) HW0.out hB hBw HL1.out HK1.out (by simp [be_length]; omega) hm1 HT1.out HG2.out (by simpa [be_length] using hb3.out) HBEL3.out _ (by simp [be_length] <;> first | rfl | omega)

end Go.Proofs.Ytgjkbldgpfaemaa
