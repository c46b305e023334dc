/- A Reader of msgp over impl.drops, made by impl.reading. PRINTED by wip/genrd.py. -/
import Derived.Test.YtpfjmnaognlnkaaDoorRc
namespace Go.Proofs.YtpfjmnaognlnkaaDoor
open Go.RowKit
set_option linter.unusedVariables false

set_option maxHeartbeats 1000000 in
theorem newSource_calls (W : World) (gd : Nat) (sz : Int) (h : 16 ≤ sz) :
    Calls Tryd.prog 48 #[.iface 72 (.pointer (some ⟨gd, 0, none⟩)), .int .i64 sz] W fun e W' =>
      e = .returned (.pointer (some ⟨W.heap.size, 0, none⟩)) ∧ W' = W.alloc (.cells #[.iface 72 (.pointer (some ⟨gd, 0, none⟩)), .slice none 0 0, .int .i64 0, .int .i64 sz, .nilIface] 115) := by
  have hd : decide (sz < 16) = false := decide_eq_false (by omega)
  go_enter Tryd.func48, Tryd.ntmps48
  go_wp2
  go_ret
  exact ⟨rfl, rfl⟩
set_option maxHeartbeats 1000000 in
theorem newReader_calls (W : World) (gd : Nat) (sz : Int) (h : 16 ≤ sz) :
    Calls Tryd.prog 25 #[.iface 72 (.pointer (some ⟨gd, 0, none⟩)), .int .i64 sz] W fun e W' =>
      ∃ gs gr, e = .returned (.pointer (some ⟨gr, 0, none⟩)) ∧ Blk W' gs 115 [.iface 72 (.pointer (some ⟨gd, 0, none⟩)), .slice none 0 0, .int .i64 0, .int .i64 sz, .nilIface] ∧
        Blk W' gr 82 [.pointer (some ⟨gs, 0, none⟩), .slice none 0 0, .int .i64 0, .int .i64 0, .int .u32 0, .int .u64 0] ∧ W.heap.size ≤ gs ∧ W.heap.size ≤ gr ∧ Below W.heap.size W W' := by
  go_enter Tryd.func25, Tryd.ntmps25
  go_wp2_with (
    (go_at_call 48)
    go_must (
      (refine (newSource_calls _ gd sz h).mono ?_)
      rintro e w1 ⟨rfl, rfl⟩))
  go_ret
  refine ⟨W.heap.size, W.heap.size + 1, rfl, ((Blk.new W _ [_, _, _, _, _]).alloc _), ?_, Nat.le_refl _, Nat.le_succ _, ((Below.refl _ W).alloc (Nat.le_refl _) _).alloc (by simp) _⟩
  have hn := Blk.new (W.alloc (.cells #[.iface 72 (.pointer (some ⟨gd, 0, none⟩)), .slice none 0 0, .int .i64 0, .int .i64 sz, .nilIface] 115)) 82 [.pointer (some ⟨W.heap.size, 0, none⟩), .slice none 0 0, .int .i64 0, .int .i64 0, .int .u32 0, .int .u64 0]
  have e : (W.alloc (.cells #[.iface 72 (.pointer (some ⟨gd, 0, none⟩)), .slice none 0 0, .int .i64 0, .int .i64 sz, .nilIface] 115)).heap.size = W.heap.size + 1 := by simp
  rwa [e] at hn
set_option maxHeartbeats 1000000 in
theorem setMaxE_calls (W : World) (gr : Nat) (d : Int) (cs : List Value) (hb : Blk W gr 82 cs) (v : Value) (hv : cs[4]? = some v) :
    Calls Tryd.prog 27 #[.pointer (some ⟨gr, 0, none⟩), .int .u32 d] W fun e W' => e = .returned (.tuple #[]) ∧ W' = W.setCell ⟨gr, 4, none⟩ (.int .u32 d) := by
  have q := (hb.cell 4).trans hv
  have f := hb.frozen 4
  go_enter Tryd.func27, Tryd.ntmps27
  go_wp2
  go_end0
  exact ⟨rfl, rfl⟩
set_option maxHeartbeats 1000000 in
theorem setMaxS_calls (W : World) (gr : Nat) (d : Int) (cs : List Value) (hb : Blk W gr 82 cs) (v : Value) (hv : cs[5]? = some v) :
    Calls Tryd.prog 28 #[.pointer (some ⟨gr, 0, none⟩), .int .u64 d] W fun e W' => e = .returned (.tuple #[]) ∧ W' = W.setCell ⟨gr, 5, none⟩ (.int .u64 d) := by
  have q := (hb.cell 5).trans hv
  have f := hb.frozen 5
  go_enter Tryd.func28, Tryd.ntmps28
  go_wp2
  go_end0
  exact ⟨rfl, rfl⟩

/-- A Reader whose untaken bytes are 'tot'. -/
def RS (w0 : World) (B gr : Nat) (tot : List Int) (W : World) : Prop :=
  ∃ gs gd sz ch xs, Blk W gr 82 (.pointer (some ⟨gs, 0, none⟩) :: xs) ∧ B ≤ gr ∧ SR w0 B gs gd sz ch tot W

theorem rs_start {w w1 W : World} {g gs gr : Nat} {sz : Nat} {ch : Int} {cs0 xs : List Value} {l : List Int} {u v : Value} (hb : Blk w1 g 5 cs0) (hl : l.length ≤ cs0.length) (hm : cs0.length ≤ maxLen) (ht : cs0.take l.length = bs l) (hB : w.heap.size ≤ g) (hbel : Below w.heap.size w w1)
    (hs : Blk W gs 115 [.iface 72 (.pointer (some ⟨w1.heap.size, 0, none⟩)), .slice none 0 0, .int .i64 0, .int .i64 (sz : Nat), .nilIface]) (hr : Blk W gr 82 (.pointer (some ⟨gs, 0, none⟩) :: xs)) (hgs : w1.heap.size + 1 ≤ gs) (hgr : w1.heap.size + 1 ≤ gr)
    (hW : Below (w1.heap.size + 1) (w1.alloc (.cells #[.slice (some ⟨g, 0, none⟩) l.length cs0.length, .int .i64 ch] 75)) W) (h0 : 16 ≤ sz) (h1 : sz ≤ 65536) (hc0 : 1 ≤ ch) (hc1 : ch ≤ 65536) :
    RS w w.heap.size gr l ((W.setCell ⟨gr, 4, none⟩ u).setCell ⟨gr, 5, none⟩ v) := by
  have hgg : gs ≠ gr := hs.ne_ hr (by decide)
  have hgl : g < w1.heap.size := hb.lt
  have hw1 : w.heap.size ≤ w1.heap.size := by omega
  have hd : Blk W w1.heap.size 75 [.slice (some ⟨g, 0, none⟩) l.length cs0.length, .int .i64 ch] := (Blk.new w1 _ [_, _]).below hW (by omega)
  have hbw : Blk W g 5 cs0 := (hb.alloc _).below hW (by omega)
  have hrr := (hr.set_ 4 u).set_ 5 v
  refine ⟨gs, w1.heap.size, sz, ch, _, hrr, by omega, .slice none 0 0, [], [], l, some ⟨g, 0, none⟩, cs0.length, ⟨(hs.far hgg u).far hgg v, (hd.far (by simp; omega) u).far (by simp; omega) v, ?_, .inl ⟨rfl, rfl⟩, ?_, hl, hm, h0, h1, hc0, hc1, by omega, hw1, ?_, ?_, ?_, ?_⟩, rfl⟩
  · exact bs_reads ((hbw.far (by simp; omega) u).far (by simp; omega) v) hl ht
  · intro ad hA
    injection hA with hA
    subst hA
    exact ⟨by simp [Value.ownBlock], by simp; omega, by simp; omega⟩
  · exact (((hbel.alloc (by omega) _).trans (hW.mono (by omega))).setCell (p := ⟨gr, 4, none⟩) (by simp; omega) _).setCell (p := ⟨gr, 5, none⟩) (by simp; omega) _
  · have := hr.lt
    simp only [World.setCell, Array.size_modify]
    omega
  · intro k t cs x y z hk
    have h1 := ((hk.below hbel hk.lt).alloc (.cells #[.slice (some ⟨g, 0, none⟩) l.length cs0.length, .int .i64 ch] 75)).below hW (by have := hk.lt; omega)
    exact (h1.far (by have := hk.lt; simp; omega) u).far (by have := hk.lt; simp; omega) v
  · intro ad hA
    injection hA with hA
    subst hA
    exact ⟨_, (hbw.far (by simp; omega) u).far (by simp; omega) v⟩

set_option maxHeartbeats 4000000 in
set_option maxRecDepth 100000 in
theorem reading_calls (w : World) (A : Option Addr) (c : Nat) (l : List Int) (sz : Nat) (ch : Int) (h : Reads w w.heap.size 1 A l.length (bs l)) (hn : l.length ≤ 1000000) (h0 : 16 ≤ sz) (h1 : sz ≤ 65536) (hc0 : 1 ≤ ch) (hc1 : ch ≤ 65536) :
    Calls Tryd.prog 18 #[.slice A l.length c, .int .i64 (sz : Nat), .int .i64 ch] w fun e W' =>
      ∃ gr, e = .returned (.pointer (some ⟨gr, 0, none⟩)) ∧ RS w w.heap.size gr l W' := by
  have H := Lib.hid h
  clear h
  go_enter Tryd.func18, Tryd.ntmps18
  go_wp2_with (first
    | (go_at_call 26
       go_must (
         (refine (copied_b _ A c l H.out (by omega)).mono ?_)
         intro e w1 happ
         obtain ⟨g, cs, rfl, hb, hl, hm, ht, hB, hbel⟩ := happ))
    | (go_at_call 25
       go_must (
         (refine (newReader_calls _ w1.heap.size _ (by omega)).mono ?_)
         rintro e w2 ⟨gs, gr, rfl, hs, hr, hgs, hgr, hW⟩))
    | (go_at_call 27
       go_must (
         (refine (setMaxE_calls _ gr _ _ hr _ rfl).mono ?_)
         rintro e w3 ⟨rfl, rfl⟩))
    | (go_at_call 28
       go_must (
         (refine (setMaxS_calls _ gr _ _ (hr.set_ 4 _) _ rfl).mono ?_)
         rintro e w3 ⟨rfl, rfl⟩)))
  go_ret
  have hz : (w1.alloc (.cells #[.slice (some ⟨g, 0, none⟩) l.length cs.length, .int .i64 ch] 75)).heap.size = w1.heap.size + 1 := by simp
  rw [hz] at hgs hgr hW
  exact ⟨gr, rfl, rs_start hb hl hm ht hB hbel hs hr hgs hgr hW (by omega) (by omega) hc0 hc1⟩
end Go.Proofs.YtpfjmnaognlnkaaDoor
