/- msgp.AppendTimeExt: a time as the timestamp extension. PRINTED by wip/gent.py. -/
import Derived.Test.YtgjkbldgpfaemaaDoorKp
import Derived.Deep.RegionHeld3
namespace Go.Proofs.YtgjkbldgpfaemaaDoor
open Go.RowKit
set_option linter.unusedVariables false

theorem splice_splice (a : List Value) : ∀ (cs : List Value) (o : Nat) (b : List Value), o + a.length + b.length ≤ cs.length → splice (splice cs o a) (o + a.length) b = splice cs o (a ++ b) := by
  induction a with
  | nil => intro cs o b _; rw [splice_nil]; rfl
  | cons x xs ih =>
    intro cs o b h
    simp only [List.length_cons] at h
    rw [splice_cons cs o x xs (by omega), List.cons_append, splice_cons cs o x (xs ++ b) (by omega), List.length_cons, show o + (xs.length + 1) = o + 1 + xs.length by omega]
    exact ih _ _ _ (by rw [List.length_set]; omega)
/-- What a function leaves that writes some cells into a block at a place, and may draw blocks. -/
def WroteA (w : World) (g : Nat) (cs : List Value) (o : Nat) (news : List Value) (e : Ending) (w' : World) : Prop :=
  e = .returned (.tuple #[]) ∧ Blk w' g 5 (splice cs o news) ∧ w.grownBy w' (some g)
theorem wroteA {w w' : World} (ob : Obj) {g o : Nat} {cs news : List Value} {e : Ending} (h : Wrote w g cs o news e w') : WroteA w g cs o news e (w'.alloc ob) :=
  ⟨h.1, h.2.1.alloc ob, h.2.2.1.trans (World.grownBy_alloc w' ob (some g))⟩
/-- A result that lies in memory. -/
theorem results_cell0 {P : Program} {fn : Func} {p : Tmp} {ty : TypeId} (h : fn.results = #[.cell p ty]) {tmps : Array Value} {w : World} {g : Nat} {cs : List Value} (d : TypeDesc)
    (hp : tmps.getD p undef = .pointer (some ⟨g, 0, none⟩)) (hg : Blk w g ty cs) (hu : P.underlying ty = some d) (hd : (match d with | .struct _ | .array _ _ => true | _ => false) = true) (hi : (P.info? ty).map (·.size) = some cs.length) :
    (results fn tmps).run P w = .ok (.agg cs.toArray) w := by
  have hp' : tmps[p]?.getD undef = .pointer (some ⟨g, 0, none⟩) := by simpa using hp
  simp [results, h, hp', asAddr, run_loadVar_row w g ty ty cs.toArray (0, 0) d hg hu hd (by simpa using hi)]

theorem PutUint32_b (w : World) (g o n c : Nat) (u : Int) (cs : List Value) (hb : Blk w g 5 cs) (h3 : 4 ≤ n) (ho : o + n ≤ cs.length) (hm : cs.length ≤ maxLen) (h0 : 0 ≤ u) (hu : u ≤ 4294967295) :
    Calls Tryd.prog 21 #[.agg #[], .slice (some ⟨g, o, none⟩) n c, .int .u32 u] w (WroteA w g cs o (bs (be u 4))) := by
  have hgl := hb.lt
  obtain ⟨v0, c0⟩ := blk_at hb (o + 0) (by omega)
  obtain ⟨v1, c1⟩ := blk_at hb (o + 1) (by omega)
  obtain ⟨v2, c2⟩ := blk_at hb (o + 2) (by omega)
  obtain ⟨v3, c3⟩ := blk_at hb (o + 3) (by omega)
  have f0 := hb.frozen (o + 0)
  have f1 := hb.frozen (o + 1)
  have f2 := hb.frozen (o + 2)
  have f3 := hb.frozen (o + 3)
  simp only [Nat.add_zero] at c0 f0
  have HB := Lib.hid hb
  have hm' : cs.length ≤ 9223372036854775807 := by unfold maxLen at hm; omega
  clear hb
  have hv : bs (be u 4) = [.int .u8 (u / 16777216), .int .u8 (u / 65536 % 256), .int .u8 (u / 256 % 256), .int .u8 (u % 256)] := by
    have e3 : byt u 3 = u / 16777216 := by unfold byt; simp only [Int.reducePow] <;> omega
    have e2 : byt u 2 = u / 65536 % 256 := by unfold byt; simp only [Int.reducePow] <;> omega
    have e1 : byt u 1 = u / 256 % 256 := by unfold byt; simp only [Int.reducePow] <;> omega
    have e0 : byt u 0 = u % 256 := by unfold byt; simp only [Int.reducePow] <;> omega
    simp only [be, bs, List.map_cons, List.map_nil, e0, e1, e2, e3]
  rw [hv]
  clear hv
  go_enter Tryd.func21, Tryd.ntmps21
  go_wp2
  go_end0
  refine wroteA _ ?_
  exact wrote_wr HB.out o _ (by simp only [List.length_cons, List.length_nil]; omega)

set_option maxHeartbeats 1000000 in
theorem PutUint64_b (w : World) (g o n c : Nat) (u : Int) (cs : List Value) (hb : Blk w g 5 cs) (h3 : 8 ≤ n) (ho : o + n ≤ cs.length) (hm : cs.length ≤ maxLen) (h0 : 0 ≤ u) (hu : u ≤ 18446744073709551615) :
    Calls Tryd.prog 22 #[.agg #[], .slice (some ⟨g, o, none⟩) n c, .int .u64 u] w (WroteA w g cs o (bs (be u 8))) := by
  have hgl := hb.lt
  obtain ⟨v0, c0⟩ := blk_at hb (o + 0) (by omega)
  obtain ⟨v1, c1⟩ := blk_at hb (o + 1) (by omega)
  obtain ⟨v2, c2⟩ := blk_at hb (o + 2) (by omega)
  obtain ⟨v3, c3⟩ := blk_at hb (o + 3) (by omega)
  obtain ⟨v4, c4⟩ := blk_at hb (o + 4) (by omega)
  obtain ⟨v5, c5⟩ := blk_at hb (o + 5) (by omega)
  obtain ⟨v6, c6⟩ := blk_at hb (o + 6) (by omega)
  obtain ⟨v7, c7⟩ := blk_at hb (o + 7) (by omega)
  have f0 := hb.frozen (o + 0)
  have f1 := hb.frozen (o + 1)
  have f2 := hb.frozen (o + 2)
  have f3 := hb.frozen (o + 3)
  have f4 := hb.frozen (o + 4)
  have f5 := hb.frozen (o + 5)
  have f6 := hb.frozen (o + 6)
  have f7 := hb.frozen (o + 7)
  simp only [Nat.add_zero] at c0 f0
  have HB := Lib.hid hb
  have hm' : cs.length ≤ 9223372036854775807 := by unfold maxLen at hm; omega
  clear hb
  have hv : bs (be u 8) = [.int .u8 (u / 72057594037927936), .int .u8 (u / 281474976710656 % 256), .int .u8 (u / 1099511627776 % 256), .int .u8 (u / 4294967296 % 256), .int .u8 (u / 16777216 % 256), .int .u8 (u / 65536 % 256), .int .u8 (u / 256 % 256), .int .u8 (u % 256)] := by
    have e7 : byt u 7 = u / 72057594037927936 := by unfold byt; simp only [Int.reducePow] <;> omega
    have e6 : byt u 6 = u / 281474976710656 % 256 := by unfold byt; simp only [Int.reducePow] <;> omega
    have e5 : byt u 5 = u / 1099511627776 % 256 := by unfold byt; simp only [Int.reducePow] <;> omega
    have e4 : byt u 4 = u / 4294967296 % 256 := by unfold byt; simp only [Int.reducePow] <;> omega
    have e3 : byt u 3 = u / 16777216 % 256 := by unfold byt; simp only [Int.reducePow] <;> omega
    have e2 : byt u 2 = u / 65536 % 256 := by unfold byt; simp only [Int.reducePow] <;> omega
    have e1 : byt u 1 = u / 256 % 256 := by unfold byt; simp only [Int.reducePow] <;> omega
    have e0 : byt u 0 = u % 256 := by unfold byt; simp only [Int.reducePow] <;> omega
    simp only [be, bs, List.map_cons, List.map_nil, e0, e1, e2, e3, e4, e5, e6, e7]
  rw [hv]
  clear hv
  go_enter Tryd.func22, Tryd.ntmps22
  go_wp2
  go_end0
  refine wroteA _ ?_
  exact wrote_wr HB.out o _ (by simp only [List.length_cons, List.length_nil]; omega)

set_option maxHeartbeats 1000000 in
set_option maxRecDepth 100000 in
theorem At_pos (w : World) (sec nsec : Int) (h0 : 0 ≤ nsec) (h1 : nsec < 1000000000) :
    Calls Tryd.prog 11 #[.int .i64 sec, .int .i64 nsec] w fun e w' => e = .returned (.agg #[.int .i64 sec, .int .i64 nsec]) ∧ Below w.heap.size w w' := by
  have hd : decide (nsec < 0) = false := by simp; omega
  have hd2 : decide (1000000000 ≤ nsec) = false := by simp; omega
  go_enter Tryd.func11, Tryd.ntmps11
  go_wp2
  refine bodyPost_ret (results_cell0 rfl _ rfl (Blk.new w 39 [_, _]) Tryd.underlying39 rfl (by kernel_rfl)) rfl ?_
  exact ⟨rfl, (Below.refl _ w).alloc (Nat.le_refl _) _⟩
theorem Truncate_calls (w : World) (sec nsec d : Int) :
    Calls Tryd.prog 16 #[.agg #[.int .i64 sec, .int .i64 nsec], .int .i64 d] w fun e w' => e = .returned (.agg #[.int .i64 sec, .int .i64 0]) ∧ Below w.heap.size w w' := by
  go_enter Tryd.func16, Tryd.ntmps16
  go_wp2
  refine bodyPost_ret (results_cell0 rfl _ (by rw [World.size_alloc]; rfl) (Blk.new (w.alloc _) 39 [_, _]) Tryd.underlying39 rfl (by kernel_rfl)) rfl ?_
  exact ⟨rfl, ((Below.refl _ w).alloc (Nat.le_refl _) _).alloc (by simp) _⟩
theorem Sub_calls (w : World) (sec nsec : Int) (h0 : 0 ≤ nsec) (h1 : nsec < 1000000000) :
    Calls Tryd.prog 17 #[.agg #[.int .i64 sec, .int .i64 nsec], .agg #[.int .i64 sec, .int .i64 0]] w fun e w' => e = .returned (.int .i64 nsec) ∧ Below w.heap.size w w' := by
  go_enter Tryd.func17, Tryd.ntmps17
  go_wp2
  go_ret
  exact ⟨rfl, ((Below.refl _ w).alloc (Nat.le_refl _) _).alloc (by simp) _⟩
theorem Unix_calls (w : World) (sec nsec : Int) :
    Calls Tryd.prog 19 #[.agg #[.int .i64 sec, .int .i64 nsec]] w fun e w' => e = .returned (.int .i64 sec) ∧ Below w.heap.size w w' := by
  go_enter Tryd.func19, Tryd.ntmps19
  go_wp2
  go_ret
  exact ⟨rfl, (Below.refl _ w).alloc (Nat.le_refl _) _⟩
theorem Nanoseconds_calls (w : World) (d : Int) :
    Calls Tryd.prog 18 #[.int .i64 d] w fun e w' => e = .returned (.int .i64 d) ∧ w = w' := by
  go_enter Tryd.func18, Tryd.ntmps18
  go_wp2
  go_ret
  exact ⟨rfl, rfl⟩
theorem app_sp {w0 W : World} {B g : Nat} {cs : List Value} {l news : List Int} (hg : B ≤ g) (hB : Below B w0 W) (hb : Blk W g 5 (splice cs l.length (bs news))) (hn : l.length + news.length ≤ cs.length) (hm : cs.length ≤ maxLen) (ht : cs.take l.length = bs l) (v : Value)
    (hv : v = .slice (some ⟨g, 0, none⟩) (l.length + news.length) cs.length) : AppB w0 B (l ++ news) (.returned v) W := by
  have hl : (l ++ news).length = l.length + news.length := by simp
  have h1 : (splice cs l.length (bs news)).length = cs.length := length_splice _ _ _ (by rw [bs_length]; omega)
  have t1 := splice_take cs l.length (bs news) (by rw [bs_length]; omega)
  rw [bs_length] at t1
  refine ⟨g, _, by rw [hv, h1, hl], hb, by rw [h1, hl]; omega, by rw [h1]; exact hm, ?_, hg, hB⟩
  rw [hl, t1, ht, bs_append]
theorem or_join34 (s n : Int) (h0 : 0 ≤ s) (h1 : s < 17179869184) (h2 : 0 ≤ n) (h3 : n < 1000000000) : bits .or .u64 s (n * 17179869184) = s + n * 17179869184 := by
  rw [u64_or _ _ h0 (by omega) (by omega) (by omega), Nat.or_comm, nat_join 34 _ _ (by omega) (by omega)]
  omega

end Go.Proofs.YtgjkbldgpfaemaaDoor
