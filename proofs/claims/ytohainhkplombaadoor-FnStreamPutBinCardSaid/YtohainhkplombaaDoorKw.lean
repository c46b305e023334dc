/- msgp's Writer over a Text: its buffer, flush, push, prefix8, 16, 32, 64: what was written so far grows by what is written. -/
import Derived.Test.YtohainhkplombaaDoorKc
import Derived.Test.YtohainhkplombaaDoorBit
import Derived.Deep.RegionHeld3
import Derived.Deep.QuietTactic
import Derived.BigQuiet
import Derived.WalkSpells
namespace Go.Proofs.YtohainhkplombaaDoor
open Go.RowKit
set_option linter.unusedVariables false

theorem own_blk_ne {w : World} {base n g : Nat} {e t : TypeId} {size : Nat} {v : Value} {xs : List Value} {cs : List Value} (h : w.ownsRow base e size v n xs) (hg : Blk w g t cs) (hne : e ≠ t) : v.ownBlock ≠ some g := by
  rcases h.2 with ⟨rfl, _⟩ | ⟨g', cap, cur, rfl, _, hh, _⟩
  · simp [Value.ownBlock]
  · intro he
    have : g' = g := by simpa [Value.ownBlock] using he
    subst this
    unfold Blk at hg
    rw [hh] at hg
    injection hg with hg
    injection hg with _ ht
    exact hne ht
theorem own_form {w : World} {base n : Nat} {e : TypeId} {size : Nat} {v : Value} {xs : List Value} (h : w.ownsRow base e size v n xs) : ∃ A c, v = .slice A n c ∧ n ≤ c ∧ c ≤ maxLen := by
  rcases h.2 with ⟨rfl, rfl⟩ | ⟨g, cap, cur, rfl, _, _, h1, h2, _⟩
  · exact ⟨none, 0, rfl, Nat.le_refl _, by simp [maxLen]⟩
  · exact ⟨_, cap, rfl, h1, h2⟩
theorem grown_set {w W : World} {row : Option Nat} (p : Addr) (u : Value) : W.grownBy (W.setCell p u) (some p.block) :=
  ⟨rfl, rfl, rfl, by simp [World.setCell], fun k hk hne => Below.heap_setCell W p u k (fun e => hne (by rw [e]))⟩

/-- What 'Text.Write' leaves. -/
def TW (w0 W : World) (B gt : Nat) (v : Value) (out r : List Int) (e : Ending) (W' : World) : Prop :=
  ∃ v', e = .returned (.tuple #[.int .i64 r.length, .nilIface]) ∧ Blk W' gt 44 [v'] ∧ W'.ownsRow B 5 1 v' (out ++ r).length (bs (out ++ r)) ∧
    (∀ k, k < W.heap.size → k ≠ gt → some k ≠ v.ownBlock → W'.heap[k]? = W.heap[k]?) ∧ (v'.ownBlock = v.ownBlock ∨ v'.ownBlock = some W.heap.size) ∧ Below B w0 W' ∧ W.heap.size ≤ W'.heap.size

set_option maxHeartbeats 1000000 in
theorem textWrite_calls (w0 W : World) (B gt K c : Nat) (v : Value) (A : Option Addr) (out r : List Int) (hb : Blk W gt 44 [v]) (ho : W.ownsRow B 5 1 v out.length (bs out)) (hr : Reads W K 1 A r.length (bs r)) (hBt : B ≤ gt) (hw0 : Below B w0 W) (hBW : B ≤ W.heap.size) (hn : out.length + r.length ≤ 1099511627776) :
    Calls Tryd.prog 45 #[.pointer (some ⟨gt, 0, none⟩), .slice A r.length c] W (TW w0 W B gt v out r) := by
  obtain ⟨i0, hi0, hz0, hz1, hz2⟩ := info_parts infoU8
  obtain ⟨A0, c0, rfl, hc0, hm0⟩ := own_form ho
  have hne := own_blk_ne ho hb (by decide)
  have q0 : W.cell? ⟨gt, 0, none⟩ = some (.slice A0 out.length c0) := hb.cell 0
  have HB := Lib.hid hb
  have HO := Lib.hid ho
  have HR := Lib.hid hr
  have HW0 := Lib.hid hw0
  have HNE := Lib.hid hne
  clear hb ho hr hw0 hne
  go_enter Tryd.func45, Tryd.ntmps45
  go_wp2_with (
     (at_builtin)
     go_must (
       (refine wpList_append_any _ rfl (.tmp 10) (.tmp 11) 24 rfl B 5 i0 _ 1 1 Tryd.underlying24 hi0 hz0 hz1 hz2 rfl (by omega) (.slice A0 out.length c0) out.length (bs out) rfl HO.out K A r.length c (bs r) rfl HR.out (bs_one r) (by simp only [maxLen]; omega) (by omega) hBW ?_)
       intro v1 w1 hown1 hg1 hat1
       obtain ⟨A1, c1, rfl, hc1, hm1⟩ := own_form hown1
       have hb1 : Blk w1 gt 44 [.slice A0 out.length c0] := HB.out.grown hg1 (fun e => HNE.out e.symm)
       have q1 : w1.cell? ⟨gt, 0, none⟩ = some (.slice A0 out.length c0) := hb1.cell 0
       have f1 := hb1.frozen 0
       have HB1 := Lib.hid hb1
       have HOW1 := Lib.hid hown1
       have HG1 := Lib.hid hg1
       have HAT1 := Lib.hid hat1
       clear hb1 hown1 hg1 hat1))
  go_ret2
  have hg := HG1.out
  have hs := grown_set (w := W) (W := w1) (row := none) ⟨gt, 0, none⟩ (.slice A1 (out.length + r.length) c1)
  have hne1 := own_blk_ne HOW1.out HB1.out (by decide)
  have ho2 := HOW1.out.kept hs (.inr hne1)
  refine ⟨_, rfl, HB1.out.set_ 0 _, by rw [bs_append, List.length_append]; exact ho2, fun k hk h1 h2 => (hs.block k (Nat.lt_of_lt_of_le hk hg.size) (fun e => h1 (by injection e))).trans (hg.block k hk h2), HAT1.out, ?_, Nat.le_trans hg.size hs.size⟩
  refine (HW0.out.grown hg hBW (fun k hk => (HO.out.lt k hk).1)).setCell (p := ⟨gt, 0, none⟩) hBt _

/-- A Writer's memory: the struct, its buffer, the Text behind it: out is written, pend lies in the buffer. -/
structure WP (w0 W : World) (B gw gb gt : Nat) (cs : List Value) (v : Value) (out pend : List Int) : Prop where
  wr : Blk W gw 63 [.iface 46 (.pointer (some ⟨gt, 0, none⟩)), .slice (some ⟨gb, 0, none⟩) cs.length cs.length, .int .i64 pend.length]
  buf : Blk W gb 5 cs
  tk : cs.take pend.length = bs pend
  le : pend.length ≤ cs.length
  lo : 18 ≤ cs.length
  hi : cs.length ≤ 65536
  txt : Blk W gt 44 [v]
  own : W.ownsRow B 5 1 v out.length (bs out)
  ne : v.ownBlock ≠ some gb
  bw : B ≤ gw
  bb : B ≤ gb
  bt : B ≤ gt
  bel : Below B w0 W
  bsz : B ≤ W.heap.size

theorem nil_ahead (a : Addr) (w : World) (fuel : Nat) : (nilAhead (fuel + 1) 46 (.pointer (some a)) "Write").run Tryd.prog w = .ok (some false) w := by kernel_rfl
theorem method_write (a : Addr) (w : World) (fuel : Nat) : (method (fuel + 1) 46 (.pointer (some a)) "Write").run Tryd.prog w = .ok (45, .pointer (some a)) w := by kernel_rfl

theorem flush_reads {w0 W : World} {B gw gb gt : Nat} {cs : List Value} {v : Value} {out pend : List Int} (h : WP w0 W B gw gb gt cs v out pend) : Reads W.drew W.heap.size 1 (some ⟨gb, 0, none⟩) pend.length (bs pend) := by
  have hr := (h.buf.reads 0 pend.length (by have := h.le; omega)).more (show gb + 1 ≤ W.heap.size from h.buf.lt)
  rw [List.drop_zero, h.tk] at hr
  exact hr
/-- Behind Text.Write, ahead of the counter's reset. -/
structure WQ (w0 W : World) (B gw gb gt : Nat) (cs : List Value) (v : Value) (out pend : List Int) : Prop where
  wr : Blk W gw 63 [.iface 46 (.pointer (some ⟨gt, 0, none⟩)), .slice (some ⟨gb, 0, none⟩) cs.length cs.length, .int .i64 pend.length]
  buf : Blk W gb 5 cs
  txt : Blk W gt 44 [v]
  own : W.ownsRow B 5 1 v (out ++ pend).length (bs (out ++ pend))
  ne : v.ownBlock ≠ some gb
  bel : Below B w0 W
  bsz : B ≤ W.heap.size
theorem flush_after {w0 W W1 : World} {B gw gb gt : Nat} {cs : List Value} {v v' : Value} {out pend : List Int} (h : WP w0 W B gw gb gt cs v out pend)
    (hb1 : Blk W1 gt 44 [v']) (ho1 : W1.ownsRow B 5 1 v' (out ++ pend).length (bs (out ++ pend)))
    (hfr1 : ∀ k, k < W.drew.heap.size → k ≠ gt → some k ≠ v.ownBlock → W1.heap[k]? = W.drew.heap[k]?) (hat1 : v'.ownBlock = v.ownBlock ∨ v'.ownBlock = some W.drew.heap.size) (hbel1 : Below B w0 W1) (hsz1 : W.drew.heap.size ≤ W1.heap.size) :
    WQ w0 W1 B gw gb gt cs v' out pend := by
  have e1 : gw ≠ gt := h.wr.ne_ h.txt (by decide)
  have e2 : gb ≠ gt := h.buf.ne_ h.txt (by decide)
  have e3 := own_blk_ne h.own h.wr (by decide)
  refine ⟨(hfr1 gw h.wr.lt e1 (fun e => e3 e.symm)).trans h.wr, (hfr1 gb h.buf.lt e2 (fun e => h.ne e.symm)).trans h.buf, hb1, ho1, ?_, hbel1, Nat.le_trans h.bsz hsz1⟩
  rcases hat1 with e | e
  · rw [e]; exact h.ne
  · rw [e]
    intro he
    injection he with he
    have := h.buf.lt
    have h2 : W.drew.heap.size = W.heap.size := rfl
    omega
theorem flush_cells {w0 W : World} {B gw gb gt : Nat} {cs : List Value} {v : Value} {out pend : List Int} (h : WQ w0 W B gw gb gt cs v out pend) :
    W.cell? ⟨gw, 0, none⟩ = some (.iface 46 (.pointer (some ⟨gt, 0, none⟩))) ∧ W.cell? ⟨gw, 1, none⟩ = some (.slice (some ⟨gb, 0, none⟩) cs.length cs.length) ∧ W.cell? ⟨gw, 2, none⟩ = some (.int .i64 pend.length) :=
  ⟨h.wr.cell 0, h.wr.cell 1, h.wr.cell 2⟩

theorem ownsRow_set {w : World} {base n g o : Nat} {e : TypeId} {size : Nat} {v : Value} {xs : List Value} (h : w.ownsRow base e size v n xs) (hne : v.ownBlock ≠ some g) (u : Value) : (w.setCell ⟨g, o, none⟩ u).ownsRow base e size v n xs :=
  h.kept (grown_set (W := w) (w := w) (row := none) ⟨g, o, none⟩ u) (.inr hne)
theorem flush_reset {w0 W W1 : World} {B gw gb gt : Nat} {cs : List Value} {v v' : Value} {out pend : List Int} (h : WP w0 W B gw gb gt cs v out pend) (q : WQ w0 W1 B gw gb gt cs v' out pend) :
    WP w0 (W1.setCell ⟨gw, 2, none⟩ (.int .i64 0)) B gw gb gt cs v' (out ++ pend) [] := by
  have e1 : gb ≠ gw := q.buf.ne_ q.wr (by decide)
  have e2 : gt ≠ gw := q.txt.ne_ q.wr (by decide)
  refine ⟨q.wr.set_ 2 _, q.buf.far e1 _, by simp [bs], Nat.zero_le _, h.lo, h.hi, q.txt.far e2 _, ownsRow_set q.own (own_blk_ne q.own q.wr (by decide)) _, q.ne, h.bw, h.bb, h.bt, q.bel.setCell (p := ⟨gw, 2, none⟩) h.bw _, ?_⟩
  have := q.bsz
  simpa [World.setCell] using this

set_option maxHeartbeats 2000000 in
set_option maxRecDepth 100000 in
theorem flush_calls (w0 W : World) (B gw gb gt : Nat) (cs : List Value) (v : Value) (out pend : List Int) (h : WP w0 W B gw gb gt cs v out pend) (hn : out.length + pend.length ≤ 1099511627776) :
    Calls Tryd.prog 23 #[.pointer (some ⟨gw, 0, none⟩)] W fun e W' => e = .returned .nilIface ∧ ∃ v', WP w0 W' B gw gb gt cs v' (out ++ pend) [] := by
  have q0 := h.wr.cell 0
  have q1 := h.wr.cell 1
  have q2 := h.wr.cell 2
  simp only [List.getElem?_cons_zero, List.getElem?_cons_succ] at q0 q1 q2
  have HW := Lib.hid h
  have hle := h.le
  have hlo := h.lo
  have hhi := h.hi
  clear h
  by_cases h0 : pend.length = 0
  · have hp : pend = [] := List.eq_nil_of_length_eq_zero h0
    subst hp
    go_enter Tryd.func23, Tryd.ntmps23
    go_wp2
    go_ret
    refine ⟨rfl, v, ?_⟩
    rw [List.append_nil]
    exact HW.out
  · have hd : ((pend.length : Int) == 0) = false := by rw [beq_eq_false_iff_ne]; omega
    clear h0
    go_enter Tryd.func23, Tryd.ntmps23
    go_wp2
    have hna := fun w fuel => nil_ahead ⟨gt, 0, none⟩ w fuel
    have hmw := fun w fuel => method_write ⟨gt, 0, none⟩ w fuel
    go_region_held3 (fun W' => W'.cell? ⟨gw, 0, none⟩ = some (.iface 46 (.pointer (some ⟨gt, 0, none⟩))) ∧ W'.cell? ⟨gw, 1, none⟩ = some (.slice (some ⟨gb, 0, none⟩) cs.length cs.length) ∧ W'.cell? ⟨gw, 2, none⟩ = some (.int .i64 pend.length)) (first | assumption | go_keep)
      (first
        | (go_at_call 45
           refine (textWrite_calls w0 W.drew B gt W.heap.size cs.length v _ out pend HW.out.txt HW.out.own (flush_reads HW.out) HW.out.bt (below_drewN HW.out.bel 1) HW.out.bsz hn).mono ?_
           rintro e W1 ⟨v', rfl, hb1, ho1, hfr1, hat1, hbel1, hsz1⟩
           have hwp := flush_after HW.out hb1 ho1 hfr1 hat1 hbel1 hsz1
           have hS1 := flush_cells hwp
           have HWP := Lib.hid hwp
           clear hb1 ho1 hfr1 hat1 hbel1 hsz1 hwp))
    obtain ⟨p0, p1, p2⟩ := hS1
    have f2 := HWP.out.wr.frozen 2
    clear q0 q1 q2 hna hmw
    go_wp2
    go_ret
    refine ⟨rfl, v', ?_⟩
    exact flush_reset HW.out HWP.out
end Go.Proofs.YtohainhkplombaaDoor
