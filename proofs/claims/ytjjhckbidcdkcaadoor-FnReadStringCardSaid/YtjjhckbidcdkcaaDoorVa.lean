/- AMQP: the Buffer that is written: Append, AppendByte, AppendUint32, AppendUint64, Bytes; the deferred noData. PRINTED by wip/gena.py. -/
import Derived.Test.YtjjhckbidcdkcaaDoorKd
import Derived.BigQuiet
import Derived.Defers
import Derived.Recover
namespace Go.Proofs.YtjjhckbidcdkcaaDoor
open Go.RowKit
set_option linter.unusedVariables false

/-- Block gb of W is a Buffer that holds the bytes l, none of them read; below block B nothing has turned since w0. -/
def Bw (w0 W : World) (B gb : Nat) (l : List Int) : Prop :=
  ∃ v, Blk W gb 80 [v, .int .i64 0] ∧ W.ownsRow B 5 1 v l.length (bs l) ∧ Below B w0 W ∧ B ≤ gb ∧ some gb ≠ v.ownBlock
theorem own_form {w : World} {base n : Nat} {e : TypeId} {size : Nat} {v : Value} {xs : List Value} (h : w.ownsRow base e size v n xs) : ∃ A c, v = .slice A n c := by
  rcases h.2 with ⟨rfl, rfl⟩ | ⟨g, cap, cur, rfl, _, _, h1, h2, _⟩
  · exact ⟨none, 0, rfl⟩
  · exact ⟨_, cap, rfl⟩
theorem own_far {w : World} {base gb n : Nat} {e : TypeId} {v u : Value} {xs : List Value} (h : w.ownsRow base e 1 v n xs) (hne : some gb ≠ v.ownBlock) : (w.setCell ⟨gb, 0, none⟩ u).ownsRow base e 1 v n xs :=
  h.kept (row := some gb) ⟨rfl, rfl, rfl, by simp, fun k _ hk => heap_setCell_other w ⟨gb, 0, none⟩ k u (fun e => hk (by simp [e]))⟩ (.inr (fun e => hne e.symm))
theorem bw_new (w : World) : Bw w (w.alloc (.cells #[.slice none 0 0, .int .i64 0] 80)) w.heap.size w.heap.size [] :=
  ⟨.slice none 0 0, Blk.new w _ [_, _], World.ownsRow_nil _ _ _ _, (Below.refl _ w).alloc (Nat.le_refl _) _, Nat.le_refl _, by simp [Value.ownBlock]⟩
/-- Blocks of other kinds than bytes, but the Buffer itself, are as they were. -/
def KeepsB (w w' : World) (gb : Nat) : Prop := ∀ k t cs, Blk w k t cs → t ≠ 5 → k ≠ gb → Blk w' k t cs
theorem KeepsB.trans {w w' w'' : World} {gb : Nat} (h : KeepsB w w' gb) (h' : KeepsB w' w'' gb) : KeepsB w w'' gb := fun k t cs hb ht hk => h' k t cs (h k t cs hb ht hk) ht hk
theorem KeepsB.of_below {w w' : World} {gb : Nat} (h : Below w.heap.size w w') : KeepsB w w' gb := fun k t cs hb ht hk => hb.below h hb.lt
theorem KeepsB.drewN {w w' : World} {gb : Nat} (h : KeepsB w w' gb) (n : Nat) : KeepsB w (w'.drewN n) gb := fun k t cs hb ht hk => h k t cs hb ht hk
theorem own_ne {w : World} {base n k : Nat} {t : TypeId} {v : Value} {xs cs : List Value} (h : w.ownsRow base 5 1 v n xs) (hb : Blk w k t cs) (ht : t ≠ 5) : some k ≠ v.ownBlock := by
  intro e
  obtain ⟨g, cs', rfl, hk, _⟩ := own_blk h (.inr (by rintro rfl; simp [Value.ownBlock] at e))
  simp [Value.ownBlock] at e
  subst e
  exact hb.ne_ hk ht rfl
theorem bw_next {w0 W w2 : World} {B gb n : Nat} {l : List Int} {xs : List Value} {v v2 : Value} (hown : W.ownsRow B 5 1 v n xs) (hblk : Blk W gb 80 [v, .int .i64 0]) (hbel : Below B w0 W) (hB : B ≤ gb) (hne : some gb ≠ v.ownBlock) (hv : ∀ k, v.ownBlock = some k → B ≤ k)
    (hown2 : w2.ownsRow B 5 1 v2 l.length (bs l)) (hg2 : W.grownBy w2 v.ownBlock) (hat : v2.ownBlock = v.ownBlock ∨ v2.ownBlock = some W.heap.size) :
    Blk w2 gb 80 [v, .int .i64 0] ∧ Bw w0 (w2.setCell ⟨gb, 0, none⟩ v2) B gb l ∧ KeepsB W (w2.setCell ⟨gb, 0, none⟩ v2) gb := by
  have hlt := hblk.lt
  have h2 := hblk.grown hg2 hne
  have hne2 : some gb ≠ v2.ownBlock := by
    rcases hat with h | h
    · rw [h]; exact hne
    · rw [h]; intro e; injection e with e; omega
  exact ⟨h2, ⟨v2, h2.set_ 0 v2, own_far hown2 hne2, (hbel.grown hg2 (by omega) hv).setCell hB _, hB, hne2⟩, fun k t cs hb ht hk => (hb.grown hg2 (own_ne hown hb ht)).far hk _⟩
theorem Bw.below {w0 W : World} {B gb : Nat} {l : List Int} (h : Bw w0 W B gb l) : Below B w0 W := by obtain ⟨v, _, _, h, _⟩ := h; exact h
theorem Bw.gt {w0 W : World} {B gb : Nat} {l : List Int} (h : Bw w0 W B gb l) : B ≤ gb := by obtain ⟨v, _, _, _, h, _⟩ := h; exact h
theorem Bw.lt {w0 W : World} {B gb : Nat} {l : List Int} (h : Bw w0 W B gb l) : gb < W.heap.size := by obtain ⟨v, h, _⟩ := h; exact h.lt
theorem Bw.alloc {w0 W : World} {B gb : Nat} {l : List Int} (h : Bw w0 W B gb l) (o : Obj) : Bw w0 (W.alloc o) B gb l := by
  obtain ⟨v, h1, h2, h3, h4, h5⟩ := h
  exact ⟨v, h1.alloc o, h2.alloc o, h3.alloc (by have := h1.lt; omega) o, h4, h5⟩
theorem Bw.drewN {w0 W : World} {B gb : Nat} {l : List Int} (h : Bw w0 W B gb l) (n : Nat) : Bw w0 (W.drewN n) B gb l := by
  obtain ⟨v, h1, h2, h3, h4, h5⟩ := h
  exact ⟨v, h1, h2, below_drewN h3 n, h4, h5⟩
/-- Something of the caller's own was made besides. -/
theorem Bw.more {w0 W W' : World} {B gb : Nat} {l : List Int} (h : Bw w0 W B gb l) (hb : Below W.heap.size W W') : Bw w0 W' B gb l := by
  obtain ⟨v, h1, h2, h3, h4, h5⟩ := h
  refine ⟨v, h1.below hb h1.lt, h2.kept (row := none) ⟨hb.os, hb.tape, hb.output, hb.size, fun k hk _ => hb.block k hk⟩ (by cases hv : v.ownBlock <;> simp), h3.trans (hb.mono (by have := h1.lt; omega)), h4, h5⟩
theorem own_b {w : World} {B n : Nat} {v : Value} {l m : List Int} (h : w.ownsRow B 5 1 v n (bs l ++ bs m)) (hn : n = (l ++ m).length) : w.ownsRow B 5 1 v (l ++ m).length (bs (l ++ m)) := by
  rw [bs_append, ← hn]; exact h

set_option maxHeartbeats 1000000 in
set_option maxRecDepth 100000 in
theorem Append_calls (w0 w : World) (B gb : Nat) (A : Option Addr) (c : Nat) (l k : List Int) (hr : Reads w w.heap.size 1 A k.length (bs k)) (hb : Bw w0 w B gb l) (hs : l.length + k.length ≤ 1000000) :
    Calls Tryd.prog 91 #[.pointer (some ⟨gb, 0, none⟩), .slice A k.length c] w fun e w' => e = .returned (.tuple #[]) ∧ Bw w0 w' B gb (l ++ k) ∧ KeepsB w w' gb := by
  obtain ⟨i0, hi0, hz0, hz1, hz2⟩ := info_parts infoU8
  obtain ⟨v, hblk, hown, hbel, hB, hne⟩ := hb
  have q0 : w.cell? ⟨gb, 0, none⟩ = some v := hblk.cell 0
  have hgb := hblk.lt
  have HBLK := Lib.hid hblk
  have HOWN := Lib.hid hown
  have HBEL := Lib.hid hbel
  have HNE := Lib.hid hne
  have HR := Lib.hid hr
  clear hr
  clear hblk hown hbel hne
  go_enter Tryd.func91, Tryd.ntmps91
  go_wp2_with (
    (at_builtin)
    go_must (
      (refine wpList_append_any _ rfl (.tmp 8) (.tmp 9) 26 rfl B 5 i0 _ 1 1 Tryd.underlying26 hi0 hz0 hz1 hz2 rfl (by omega) v l.length (bs l) rfl HOWN.out w.heap.size A k.length c (bs k) rfl HR.out (bs_one _) (by simp only [maxLen]; omega) (by omega) (by omega) ?_)
      intro v2 w2 hown2 hg2 hat2
      obtain ⟨A2, c2, rfl⟩ := own_form hown2
      obtain ⟨hb2, hbw2, hkp2⟩ := bw_next HOWN.out HBLK.out HBEL.out hB HNE.out (fun k hk => (HOWN.out.lt k hk).1) (own_b hown2 (by simp)) hg2 (by simpa using hat2)
      have n0 : w2.cell? ⟨gb, 0, none⟩ = some v := hb2.cell 0
      have f0 := hb2.frozen 0
      have hz : gb < w2.heap.size := hb2.lt
      have HBW := Lib.hid hbw2
      have HKP := Lib.hid hkp2
      clear hown2 hg2 hat2 hb2 hbw2 hkp2))
  go_end0
  exact ⟨rfl, HBW.out, HKP.out⟩

theorem reads_list (w : World) (t : TypeId) (l : List Int) : Reads (w.alloc (.cells (bs l).toArray t)) (w.heap.size + 1) 1 (some ⟨w.heap.size, 0, none⟩) l.length (bs l) := by
  have hl : l.length ≤ (bs l).length := by simp [bs]
  have h := (Blk.new w t (bs l)).reads 0 l.length (by omega)
  rwa [List.drop_zero, List.take_of_length_le (by simp [bs])] at h

set_option maxHeartbeats 1000000 in
set_option maxRecDepth 100000 in
theorem AppendByte_calls (w0 w : World) (B gb : Nat) (x : Int) (l : List Int) (hb : Bw w0 w B gb l) (hs : l.length + 1 ≤ 1000000) :
    Calls Tryd.prog 79 #[.pointer (some ⟨gb, 0, none⟩), .int .u8 x] w fun e w' => e = .returned (.tuple #[]) ∧ Bw w0 w' B gb (l ++ [x]) ∧ KeepsB w w' gb := by
  obtain ⟨i0, hi0, hz0, hz1, hz2⟩ := info_parts infoU8
  obtain ⟨v, hblk, hown, hbel, hB, hne⟩ := hb
  have q0 : w.cell? ⟨gb, 0, none⟩ = some v := hblk.cell 0
  have hgb := hblk.lt
  have HBLK := Lib.hid hblk
  have HOWN := Lib.hid hown
  have HBEL := Lib.hid hbel
  have HNE := Lib.hid hne
  clear hblk hown hbel hne
  go_enter Tryd.func79, Tryd.ntmps79
  go_wp2_with (
    (at_builtin)
    go_must (
      (refine wpList_append_any _ rfl (.tmp 8) (.tmp 10) 26 rfl B 5 i0 _ 1 1 Tryd.underlying26 hi0 hz0 hz1 hz2 rfl (by omega) v l.length (bs l) rfl (HOWN.out.alloc _) (w.heap.size + 1) (some ⟨w.heap.size, 0, none⟩) 1 1 (bs [x]) rfl (reads_list w 5 [x]) (bs_one _) (by simp only [maxLen]; omega) (by omega) (by simp; omega) ?_)
      intro v2 w2 hown2 hg2 hat2
      obtain ⟨A2, c2, rfl⟩ := own_form hown2
      obtain ⟨hb2, hbw2, hkp2⟩ := bw_next (HOWN.out.alloc _) (HBLK.out.alloc _) (HBEL.out.alloc (by omega) _) hB HNE.out (fun k hk => (HOWN.out.lt k hk).1) (own_b hown2 (by simp)) hg2 (by simpa using hat2)
      have n0 : w2.cell? ⟨gb, 0, none⟩ = some v := hb2.cell 0
      have f0 := hb2.frozen 0
      have hz : gb < w2.heap.size := hb2.lt
      have HBW := Lib.hid hbw2
      have HKP := Lib.hid hkp2
      clear hown2 hg2 hat2 hb2 hbw2 hkp2))
  go_end0
  exact ⟨rfl, HBW.out, (KeepsB.of_below ((Below.refl _ w).alloc (Nat.le_refl _) _)).trans HKP.out⟩

theorem be8 (x : Int) (h0 : 0 ≤ x) (h1 : x ≤ 18446744073709551615) : [x / 72057594037927936, x / 281474976710656 % 256, x / 1099511627776 % 256, x / 4294967296 % 256, x / 16777216 % 256, x / 65536 % 256, x / 256 % 256, x % 256] = be x 8 := by
  simp [be, byt]
  omega
theorem be4 (x : Int) (h0 : 0 ≤ x) (h1 : x ≤ 4294967295) : [x / 16777216, x / 65536 % 256, x / 256 % 256, x % 256] = be x 4 := by
  simp [be, byt]
  omega
theorem be2 (x : Int) (h0 : 0 ≤ x) (h1 : x ≤ 65535) : [x / 256, x % 256] = be x 2 := by
  simp [be, byt]
  omega

set_option maxHeartbeats 1000000 in
set_option maxRecDepth 100000 in
theorem AppendUint32_calls (w0 w : World) (B gb : Nat) (x : Int) (l : List Int) (h0 : 0 ≤ x) (h1 : x ≤ 4294967295) (hb : Bw w0 w B gb l) (hs : l.length + 4 ≤ 1000000) :
    Calls Tryd.prog 75 #[.pointer (some ⟨gb, 0, none⟩), .int .u32 x] w fun e w' => e = .returned (.tuple #[]) ∧ Bw w0 w' B gb (l ++ be x 4) ∧ KeepsB w w' gb := by
  obtain ⟨i0, hi0, hz0, hz1, hz2⟩ := info_parts infoU8
  obtain ⟨v, hblk, hown, hbel, hB, hne⟩ := hb
  have q0 : w.cell? ⟨gb, 0, none⟩ = some v := hblk.cell 0
  have hgb := hblk.lt
  have HBLK := Lib.hid hblk
  have HOWN := Lib.hid hown
  have HBEL := Lib.hid hbel
  have HNE := Lib.hid hne
  clear hblk hown hbel hne
  go_enter Tryd.func75, Tryd.ntmps75
  go_wp2_with (
    (at_builtin)
    go_must (
      (refine wpList_append_any _ rfl (.tmp 8) (.tmp 20) 26 rfl B 5 i0 _ 1 1 Tryd.underlying26 hi0 hz0 hz1 hz2 rfl (by omega) v l.length (bs l) rfl (HOWN.out.alloc _) (w.heap.size + 1) (some ⟨w.heap.size, 0, none⟩) 4 4 (bs [x / 16777216, x / 65536 % 256, x / 256 % 256, x % 256]) rfl (reads_list w 5 [x / 16777216, x / 65536 % 256, x / 256 % 256, x % 256]) (bs_one _) (by simp only [maxLen]; omega) (by omega) (by simp; omega) ?_)
      intro v2 w2 hown2 hg2 hat2
      obtain ⟨A2, c2, rfl⟩ := own_form hown2
      obtain ⟨hb2, hbw2, hkp2⟩ := bw_next (HOWN.out.alloc _) (HBLK.out.alloc _) (HBEL.out.alloc (by omega) _) hB HNE.out (fun k hk => (HOWN.out.lt k hk).1) (own_b hown2 (by simp)) hg2 (by simpa using hat2)
      have n0 : w2.cell? ⟨gb, 0, none⟩ = some v := hb2.cell 0
      have f0 := hb2.frozen 0
      have hz : gb < w2.heap.size := hb2.lt
      have HBW := Lib.hid hbw2
      have HKP := Lib.hid hkp2
      clear hown2 hg2 hat2 hb2 hbw2 hkp2))
  go_end0
  exact ⟨rfl, by rw [← be4 x h0 h1]; exact HBW.out, (KeepsB.of_below ((Below.refl _ w).alloc (Nat.le_refl _) _)).trans HKP.out⟩

set_option maxHeartbeats 1000000 in
set_option maxRecDepth 100000 in
theorem AppendUint64_calls (w0 w : World) (B gb : Nat) (x : Int) (l : List Int) (h0 : 0 ≤ x) (h1 : x ≤ 18446744073709551615) (hb : Bw w0 w B gb l) (hs : l.length + 8 ≤ 1000000) :
    Calls Tryd.prog 81 #[.pointer (some ⟨gb, 0, none⟩), .int .u64 x] w fun e w' => e = .returned (.tuple #[]) ∧ Bw w0 w' B gb (l ++ be x 8) ∧ KeepsB w w' gb := by
  obtain ⟨i0, hi0, hz0, hz1, hz2⟩ := info_parts infoU8
  obtain ⟨v, hblk, hown, hbel, hB, hne⟩ := hb
  have q0 : w.cell? ⟨gb, 0, none⟩ = some v := hblk.cell 0
  have hgb := hblk.lt
  have HBLK := Lib.hid hblk
  have HOWN := Lib.hid hown
  have HBEL := Lib.hid hbel
  have HNE := Lib.hid hne
  clear hblk hown hbel hne
  go_enter Tryd.func81, Tryd.ntmps81
  go_wp2_with (
    (at_builtin)
    go_must (
      (refine wpList_append_any _ rfl (.tmp 8) (.tmp 32) 26 rfl B 5 i0 _ 1 1 Tryd.underlying26 hi0 hz0 hz1 hz2 rfl (by omega) v l.length (bs l) rfl (HOWN.out.alloc _) (w.heap.size + 1) (some ⟨w.heap.size, 0, none⟩) 8 8 (bs [x / 72057594037927936, x / 281474976710656 % 256, x / 1099511627776 % 256, x / 4294967296 % 256, x / 16777216 % 256, x / 65536 % 256, x / 256 % 256, x % 256]) rfl (reads_list w 5 [x / 72057594037927936, x / 281474976710656 % 256, x / 1099511627776 % 256, x / 4294967296 % 256, x / 16777216 % 256, x / 65536 % 256, x / 256 % 256, x % 256]) (bs_one _) (by simp only [maxLen]; omega) (by omega) (by simp; omega) ?_)
      intro v2 w2 hown2 hg2 hat2
      obtain ⟨A2, c2, rfl⟩ := own_form hown2
      obtain ⟨hb2, hbw2, hkp2⟩ := bw_next (HOWN.out.alloc _) (HBLK.out.alloc _) (HBEL.out.alloc (by omega) _) hB HNE.out (fun k hk => (HOWN.out.lt k hk).1) (own_b hown2 (by simp)) hg2 (by simpa using hat2)
      have n0 : w2.cell? ⟨gb, 0, none⟩ = some v := hb2.cell 0
      have f0 := hb2.frozen 0
      have hz : gb < w2.heap.size := hb2.lt
      have HBW := Lib.hid hbw2
      have HKP := Lib.hid hkp2
      clear hown2 hg2 hat2 hb2 hbw2 hkp2))
  go_end0
  exact ⟨rfl, by rw [← be8 x h0 h1]; exact HBW.out, (KeepsB.of_below ((Below.refl _ w).alloc (Nat.le_refl _) _)).trans HKP.out⟩

set_option maxHeartbeats 1000000 in
set_option maxRecDepth 100000 in
theorem Bytes_all (w0 w : World) (B gb : Nat) (l : List Int) (hb : Bw w0 w B gb l) (h0 : 0 < l.length) :
    Calls Tryd.prog 39 #[.pointer (some ⟨gb, 0, none⟩)] w fun e w' => (∃ g c, e = .returned (.slice (some ⟨g, 0, none⟩) l.length c) ∧ Reads w w.heap.size 1 (some ⟨g, 0, none⟩) l.length (bs l)) ∧ ∃ n, w' = w.drewN n := by
  obtain ⟨v, hblk, hown, hbel, hB, hne⟩ := hb
  obtain ⟨g, cs, rfl, hk, hBg, hn, hm, ht⟩ := own_blk hown (.inl h0)
  have q0 : w.cell? ⟨gb, 0, none⟩ = some (.slice (some ⟨g, 0, none⟩) l.length cs.length) := hblk.cell 0
  have q1 : w.cell? ⟨gb, 1, none⟩ = some (.int .i64 0) := hblk.cell 1
  have hgb := hblk.lt
  have hR : Reads w w.heap.size 1 (some ⟨g, 0, none⟩) l.length (bs l) := Reads.of_own hown
  have HR := Lib.hid hR
  have hm' : cs.length ≤ 9223372036854775807 := by unfold maxLen at hm; omega
  have hc0 : ¬ cs.length = 0 := by omega
  have hn' : (0 : Int) ≤ (l.length : Int) := by omega
  clear hblk hown hbel hne hk hR ht
  go_enter Tryd.func39, Tryd.ntmps39
  go_wp2
  go_quiet (fail)
  go_wp2
  go_ret
  exact ⟨⟨g, _, rfl, HR.out⟩, nq, rfl⟩

/-- The deferred 'noData', where nothing has panicked. -/
theorem noData_idle (p q : Addr) (w : World) :
    CallsD Tryd.prog 37 #[.pointer (some p), .pointer (some q)] .returning w fun e u' w' => e = .returned (.tuple #[]) ∧ u' = .returning ∧ w' = w := by
  refine callsD_of_wpS Tryd.func37 rfl fun c₀ cs hu => ?_
  apply wpS_seq
  apply wpS_region
  simp [wpOpsS, go_sem, recoverD, hu, Tryd.ntmps37, Exit.thenS]
  refine wpS_cond (t := false) (by simp [Act.eval, Array.replicate]) ?_
  simp only [Bool.false_eq_true, if_false]
  refine wpS_of_wp (wp_skip ?_)
  cases c₀
  simp_all [bodyPostS, results, Tryd.results37]
end Go.Proofs.YtjjhckbidcdkcaaDoor
