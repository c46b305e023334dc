/- Contracts of the small functions of msgp that write a number behind a code: what they leave in the block that they write into. -/
import Derived.Test.YtfhaddnacdjpoaaKb
namespace Go.Proofs.Ytfhaddnacdjpoaa
open Go.RowKit
set_option linter.unusedVariables false

theorem splice_nil (cs : List Value) (o : Nat) : splice cs o [] = cs := by simp [splice]
theorem splice_cons (cs : List Value) (o : Nat) (x : Value) (xs : List Value) (h : o < cs.length) : splice cs o (x :: xs) = splice (cs.set o x) (o + 1) xs := by
  have e : cs.set o x = cs.take o ++ ([x] ++ cs.drop (o + 1)) := by
    rw [List.set_eq_take_append_cons_drop, if_pos h]; rfl
  have hl : (cs.take o).length = o := by rw [List.length_take]; omega
  have e2 : cs.take o ++ ([x] ++ cs.drop (o + 1)) = (cs.take o ++ [x]) ++ cs.drop (o + 1) := by simp
  have hl2 : (cs.take o ++ [x]).length = o + 1 := by rw [List.length_append, hl]; rfl
  have hd : List.drop (o + 1 + xs.length) (List.take o cs ++ [x]) = [] := List.drop_eq_nil_of_le (by omega)
  unfold splice
  rw [e, e2, List.take_left' hl2, List.drop_append, hd, hl2, List.drop_drop]
  simp only [List.length_cons, List.cons_append, List.nil_append, List.append_assoc]
  rw [show o + (xs.length + 1) = o + 1 + (o + 1 + xs.length - (o + 1)) by omega]

/-- The i-th byte of a number, from the lowest. -/
def byt (u : Int) (i : Nat) : Int := u / 256 ^ i % 256
/-- A number in so many bytes, the highest first. -/
def be (u : Int) : Nat → List Int
  | 0 => []
  | k + 1 => byt u k :: be u k
theorem be_length (u : Int) (k : Nat) : (be u k).length = k := by induction k <;> simp [be, *]
theorem byt_range (u : Int) (i : Nat) : 0 ≤ byt u i ∧ byt u i ≤ 255 := by unfold byt; omega
theorem byt0 (u : Int) : byt u 0 = u % 256 := by unfold byt; omega

/-- What a function leaves that writes some cells into a block at a place. -/
def Wrote (w : World) (g : Nat) (cs : List Value) (o : Nat) (news : List Value) (e : Ending) (w' : World) : Prop :=
  e = .returned (.tuple #[]) ∧ Blk w' g 5 (splice cs o news) ∧ w.grownBy w' (some g) ∧ w'.heap.size = w.heap.size

theorem blk_at {w : World} {g : Nat} {t : TypeId} {cs : List Value} (hb : Blk w g t cs) (i : Nat) (h : i < cs.length) : ∃ v, w.cell? ⟨g, i, none⟩ = some v :=
  ⟨cs[i], by rw [hb.cell, List.getElem?_eq_getElem h]⟩
/-- Some cells are set, one behind the other. -/
def wr (w : World) (g : Nat) : Nat → List Value → World
  | _, [] => w
  | o, x :: xs => wr (w.setCell ⟨g, o, none⟩ x) g (o + 1) xs
theorem wr_blk (g : Nat) (t : TypeId) (news : List Value) : ∀ (w : World) (cs : List Value) (o : Nat), Blk w g t cs → o + news.length ≤ cs.length → Blk (wr w g o news) g t (splice cs o news) := by
  induction news with
  | nil => intro w cs o hb _; rw [splice_nil]; exact hb
  | cons x xs ih =>
    intro w cs o hb h
    simp only [List.length_cons] at h
    rw [splice_cons cs o x xs (by omega)]
    exact ih _ _ _ (hb.set_ o x) (by rw [List.length_set]; omega)
theorem wr_size (g : Nat) (news : List Value) : ∀ (w : World) (o : Nat), (wr w g o news).heap.size = w.heap.size := by
  induction news with
  | nil => intro w o; rfl
  | cons x xs ih => intro w o; rw [wr, ih]; simp [World.setCell]
theorem wr_block (g : Nat) (news : List Value) : ∀ (w : World) (o k : Nat), k ≠ g → (wr w g o news).heap[k]? = w.heap[k]? := by
  induction news with
  | nil => intro w o k _; rfl
  | cons x xs ih => intro w o k hk; rw [wr, ih _ _ _ hk]; exact Below.heap_setCell w _ x k hk
theorem wr_else (g : Nat) (news : List Value) : ∀ (w : World) (o : Nat), (wr w g o news).os = w.os ∧ (wr w g o news).tape = w.tape ∧ (wr w g o news).output = w.output := by
  induction news with
  | nil => intro w o; exact ⟨rfl, rfl, rfl⟩
  | cons x xs ih => intro w o; exact ih _ _
theorem wrote_wr {w : World} {g : Nat} {cs : List Value} (hb : Blk w g 5 cs) (o : Nat) (news : List Value) (h : o + news.length ≤ cs.length) : Wrote w g cs o news (.returned (.tuple #[])) (wr w g o news) :=
  ⟨rfl, wr_blk g _ news w cs o hb h, ⟨(wr_else g news w o).1, (wr_else g news w o).2.1, (wr_else g news w o).2.2, by rw [wr_size]; exact Nat.le_refl _, fun k _ hk => wr_block g news w o k (fun e => hk (by rw [e]))⟩, wr_size g news w o⟩


theorem putMuint8_calls (w : World) (g o n c : Nat) (u : Int) (cs : List Value) (hb : Blk w g 5 cs) (h3 : 2 ≤ n) (ho : o + n ≤ cs.length) (hm : cs.length ≤ maxLen) (h0 : 0 ≤ u) (hu : u ≤ 255) :
    Calls Try.prog 71 #[.slice (some ⟨g, o, none⟩) n c, .int .u8 u] w (Wrote w g cs o (bs (204 :: be u 1))) := by
  obtain ⟨v0, c0⟩ := blk_at hb (o + 0) (by omega)
  obtain ⟨v1, c1⟩ := blk_at hb (o + 1) (by omega)
  have f0 := hb.frozen (o + 0)
  have f1 := hb.frozen (o + 1)
  simp only [Nat.add_zero] at c0 f0
  have HB := Lib.hid hb
  have hm' : cs.length ≤ 9223372036854775807 := by unfold maxLen at hm; omega
  clear hb
  have hv : bs (204 :: be u 1) = [.int .u8 204, .int .u8 (u)] := by
    have e0 : byt u 0 = u := by unfold byt; simp only [Int.reducePow] <;> omega
    simp only [be, bs, List.map_cons, List.map_nil, e0]
  rw [hv]
  clear hv
  go_enter Try.func71, Try.ntmps71
  go_wp2
  go_end0
  exact wrote_wr HB.out o _ (by simp only [List.length_cons, List.length_nil]; omega)

theorem putMuint16_calls (w : World) (g o n c : Nat) (u : Int) (cs : List Value) (hb : Blk w g 5 cs) (h3 : 3 ≤ n) (ho : o + n ≤ cs.length) (hm : cs.length ≤ maxLen) (h0 : 0 ≤ u) (hu : u ≤ 65535) :
    Calls Try.prog 72 #[.slice (some ⟨g, o, none⟩) n c, .int .u16 u] w (Wrote w g cs o (bs (205 :: be u 2))) := by
  obtain ⟨v0, c0⟩ := blk_at hb (o + 0) (by omega)
  obtain ⟨v1, c1⟩ := blk_at hb (o + 1) (by omega)
  obtain ⟨v2, c2⟩ := blk_at hb (o + 2) (by omega)
  have f0 := hb.frozen (o + 0)
  have f1 := hb.frozen (o + 1)
  have f2 := hb.frozen (o + 2)
  simp only [Nat.add_zero] at c0 f0
  have HB := Lib.hid hb
  have hm' : cs.length ≤ 9223372036854775807 := by unfold maxLen at hm; omega
  clear hb
  have hv : bs (205 :: be u 2) = [.int .u8 205, .int .u8 (u / 256), .int .u8 (u % 256)] := by
    have e1 : byt u 1 = u / 256 := by unfold byt; simp only [Int.reducePow] <;> omega
    have e0 : byt u 0 = u % 256 := by unfold byt; simp only [Int.reducePow] <;> omega
    simp only [be, bs, List.map_cons, List.map_nil, e0, e1]
  rw [hv]
  clear hv
  go_enter Try.func72, Try.ntmps72
  go_wp2
  go_end0
  exact wrote_wr HB.out o _ (by simp only [List.length_cons, List.length_nil]; omega)

theorem putMuint32_calls (w : World) (g o n c : Nat) (u : Int) (cs : List Value) (hb : Blk w g 5 cs) (h3 : 5 ≤ n) (ho : o + n ≤ cs.length) (hm : cs.length ≤ maxLen) (h0 : 0 ≤ u) (hu : u ≤ 4294967295) :
    Calls Try.prog 73 #[.slice (some ⟨g, o, none⟩) n c, .int .u32 u] w (Wrote w g cs o (bs (206 :: be u 4))) := by
  obtain ⟨v0, c0⟩ := blk_at hb (o + 0) (by omega)
  obtain ⟨v1, c1⟩ := blk_at hb (o + 1) (by omega)
  obtain ⟨v2, c2⟩ := blk_at hb (o + 2) (by omega)
  obtain ⟨v3, c3⟩ := blk_at hb (o + 3) (by omega)
  obtain ⟨v4, c4⟩ := blk_at hb (o + 4) (by omega)
  have f0 := hb.frozen (o + 0)
  have f1 := hb.frozen (o + 1)
  have f2 := hb.frozen (o + 2)
  have f3 := hb.frozen (o + 3)
  have f4 := hb.frozen (o + 4)
  simp only [Nat.add_zero] at c0 f0
  have HB := Lib.hid hb
  have hm' : cs.length ≤ 9223372036854775807 := by unfold maxLen at hm; omega
  clear hb
  have hv : bs (206 :: be u 4) = [.int .u8 206, .int .u8 (u / 16777216), .int .u8 (u / 65536 % 256), .int .u8 (u / 256 % 256), .int .u8 (u % 256)] := by
    have e3 : byt u 3 = u / 16777216 := by unfold byt; simp only [Int.reducePow] <;> omega
    have e2 : byt u 2 = u / 65536 % 256 := by unfold byt; simp only [Int.reducePow] <;> omega
    have e1 : byt u 1 = u / 256 % 256 := by unfold byt; simp only [Int.reducePow] <;> omega
    have e0 : byt u 0 = u % 256 := by unfold byt; simp only [Int.reducePow] <;> omega
    simp only [be, bs, List.map_cons, List.map_nil, e0, e1, e2, e3]
  rw [hv]
  clear hv
  go_enter Try.func73, Try.ntmps73
  go_wp2
  go_end0
  exact wrote_wr HB.out o _ (by simp only [List.length_cons, List.length_nil]; omega)

set_option maxHeartbeats 1000000 in
theorem putMuint64_calls (w : World) (g o n c : Nat) (u : Int) (cs : List Value) (hb : Blk w g 5 cs) (h3 : 9 ≤ n) (ho : o + n ≤ cs.length) (hm : cs.length ≤ maxLen) (h0 : 0 ≤ u) (hu : u ≤ 18446744073709551615) :
    Calls Try.prog 74 #[.slice (some ⟨g, o, none⟩) n c, .int .u64 u] w (Wrote w g cs o (bs (207 :: be u 8))) := by
  obtain ⟨v0, c0⟩ := blk_at hb (o + 0) (by omega)
  obtain ⟨v1, c1⟩ := blk_at hb (o + 1) (by omega)
  obtain ⟨v2, c2⟩ := blk_at hb (o + 2) (by omega)
  obtain ⟨v3, c3⟩ := blk_at hb (o + 3) (by omega)
  obtain ⟨v4, c4⟩ := blk_at hb (o + 4) (by omega)
  obtain ⟨v5, c5⟩ := blk_at hb (o + 5) (by omega)
  obtain ⟨v6, c6⟩ := blk_at hb (o + 6) (by omega)
  obtain ⟨v7, c7⟩ := blk_at hb (o + 7) (by omega)
  obtain ⟨v8, c8⟩ := blk_at hb (o + 8) (by omega)
  have f0 := hb.frozen (o + 0)
  have f1 := hb.frozen (o + 1)
  have f2 := hb.frozen (o + 2)
  have f3 := hb.frozen (o + 3)
  have f4 := hb.frozen (o + 4)
  have f5 := hb.frozen (o + 5)
  have f6 := hb.frozen (o + 6)
  have f7 := hb.frozen (o + 7)
  have f8 := hb.frozen (o + 8)
  simp only [Nat.add_zero] at c0 f0
  have HB := Lib.hid hb
  have hm' : cs.length ≤ 9223372036854775807 := by unfold maxLen at hm; omega
  clear hb
  have hv : bs (207 :: be u 8) = [.int .u8 207, .int .u8 (u / 72057594037927936), .int .u8 (u / 281474976710656 % 256), .int .u8 (u / 1099511627776 % 256), .int .u8 (u / 4294967296 % 256), .int .u8 (u / 16777216 % 256), .int .u8 (u / 65536 % 256), .int .u8 (u / 256 % 256), .int .u8 (u % 256)] := by
    have e7 : byt u 7 = u / 72057594037927936 := by unfold byt; simp only [Int.reducePow] <;> omega
    have e6 : byt u 6 = u / 281474976710656 % 256 := by unfold byt; simp only [Int.reducePow] <;> omega
    have e5 : byt u 5 = u / 1099511627776 % 256 := by unfold byt; simp only [Int.reducePow] <;> omega
    have e4 : byt u 4 = u / 4294967296 % 256 := by unfold byt; simp only [Int.reducePow] <;> omega
    have e3 : byt u 3 = u / 16777216 % 256 := by unfold byt; simp only [Int.reducePow] <;> omega
    have e2 : byt u 2 = u / 65536 % 256 := by unfold byt; simp only [Int.reducePow] <;> omega
    have e1 : byt u 1 = u / 256 % 256 := by unfold byt; simp only [Int.reducePow] <;> omega
    have e0 : byt u 0 = u % 256 := by unfold byt; simp only [Int.reducePow] <;> omega
    simp only [be, bs, List.map_cons, List.map_nil, e0, e1, e2, e3, e4, e5, e6, e7]
  rw [hv]
  clear hv
  go_enter Try.func74, Try.ntmps74
  go_wp2
  go_end0
  exact wrote_wr HB.out o _ (by simp only [List.length_cons, List.length_nil]; omega)

theorem putMint8_calls (w : World) (g o n c : Nat) (u : Int) (cs : List Value) (hb : Blk w g 5 cs) (h3 : 2 ≤ n) (ho : o + n ≤ cs.length) (hm : cs.length ≤ maxLen) (h0 : -128 ≤ u) (hu : u ≤ 127) :
    Calls Try.prog 65 #[.slice (some ⟨g, o, none⟩) n c, .int .i8 u] w (Wrote w g cs o (bs (208 :: be u 1))) := by
  obtain ⟨v0, c0⟩ := blk_at hb (o + 0) (by omega)
  obtain ⟨v1, c1⟩ := blk_at hb (o + 1) (by omega)
  have f0 := hb.frozen (o + 0)
  have f1 := hb.frozen (o + 1)
  simp only [Nat.add_zero] at c0 f0
  have HB := Lib.hid hb
  have hm' : cs.length ≤ 9223372036854775807 := by unfold maxLen at hm; omega
  clear hb
  have hv : bs (208 :: be u 1) = [.int .u8 208, .int .u8 (u % 256)] := by
    have e0 : byt u 0 = u % 256 := by unfold byt; simp only [Int.reducePow] <;> omega
    simp only [be, bs, List.map_cons, List.map_nil, e0]
  rw [hv]
  clear hv
  go_enter Try.func65, Try.ntmps65
  go_wp2
  go_end0
  exact wrote_wr HB.out o _ (by simp only [List.length_cons, List.length_nil]; omega)

theorem putMint16_calls (w : World) (g o n c : Nat) (u : Int) (cs : List Value) (hb : Blk w g 5 cs) (h3 : 3 ≤ n) (ho : o + n ≤ cs.length) (hm : cs.length ≤ maxLen) (h0 : -32768 ≤ u) (hu : u ≤ 32767) :
    Calls Try.prog 61 #[.slice (some ⟨g, o, none⟩) n c, .int .i16 u] w (Wrote w g cs o (bs (209 :: be u 2))) := by
  obtain ⟨v0, c0⟩ := blk_at hb (o + 0) (by omega)
  obtain ⟨v1, c1⟩ := blk_at hb (o + 1) (by omega)
  obtain ⟨v2, c2⟩ := blk_at hb (o + 2) (by omega)
  have f0 := hb.frozen (o + 0)
  have f1 := hb.frozen (o + 1)
  have f2 := hb.frozen (o + 2)
  simp only [Nat.add_zero] at c0 f0
  have HB := Lib.hid hb
  have hm' : cs.length ≤ 9223372036854775807 := by unfold maxLen at hm; omega
  clear hb
  have hv : bs (209 :: be u 2) = [.int .u8 209, .int .u8 (u / 256 % 256), .int .u8 (u % 256)] := by
    have e1 : byt u 1 = u / 256 % 256 := by unfold byt; simp only [Int.reducePow] <;> omega
    have e0 : byt u 0 = u % 256 := by unfold byt; simp only [Int.reducePow] <;> omega
    simp only [be, bs, List.map_cons, List.map_nil, e0, e1]
  rw [hv]
  clear hv
  go_enter Try.func61, Try.ntmps61
  go_wp2
  go_end0
  exact wrote_wr HB.out o _ (by simp only [List.length_cons, List.length_nil]; omega)

theorem putMint32_calls (w : World) (g o n c : Nat) (u : Int) (cs : List Value) (hb : Blk w g 5 cs) (h3 : 5 ≤ n) (ho : o + n ≤ cs.length) (hm : cs.length ≤ maxLen) (h0 : -2147483648 ≤ u) (hu : u ≤ 2147483647) :
    Calls Try.prog 62 #[.slice (some ⟨g, o, none⟩) n c, .int .i32 u] w (Wrote w g cs o (bs (210 :: be u 4))) := by
  obtain ⟨v0, c0⟩ := blk_at hb (o + 0) (by omega)
  obtain ⟨v1, c1⟩ := blk_at hb (o + 1) (by omega)
  obtain ⟨v2, c2⟩ := blk_at hb (o + 2) (by omega)
  obtain ⟨v3, c3⟩ := blk_at hb (o + 3) (by omega)
  obtain ⟨v4, c4⟩ := blk_at hb (o + 4) (by omega)
  have f0 := hb.frozen (o + 0)
  have f1 := hb.frozen (o + 1)
  have f2 := hb.frozen (o + 2)
  have f3 := hb.frozen (o + 3)
  have f4 := hb.frozen (o + 4)
  simp only [Nat.add_zero] at c0 f0
  have HB := Lib.hid hb
  have hm' : cs.length ≤ 9223372036854775807 := by unfold maxLen at hm; omega
  clear hb
  have hv : bs (210 :: be u 4) = [.int .u8 210, .int .u8 (u / 16777216 % 256), .int .u8 (u / 65536 % 256), .int .u8 (u / 256 % 256), .int .u8 (u % 256)] := by
    have e3 : byt u 3 = u / 16777216 % 256 := by unfold byt; simp only [Int.reducePow] <;> omega
    have e2 : byt u 2 = u / 65536 % 256 := by unfold byt; simp only [Int.reducePow] <;> omega
    have e1 : byt u 1 = u / 256 % 256 := by unfold byt; simp only [Int.reducePow] <;> omega
    have e0 : byt u 0 = u % 256 := by unfold byt; simp only [Int.reducePow] <;> omega
    simp only [be, bs, List.map_cons, List.map_nil, e0, e1, e2, e3]
  rw [hv]
  clear hv
  go_enter Try.func62, Try.ntmps62
  go_wp2
  go_end0
  exact wrote_wr HB.out o _ (by simp only [List.length_cons, List.length_nil]; omega)

set_option maxHeartbeats 1000000 in
theorem putMint64_calls (w : World) (g o n c : Nat) (u : Int) (cs : List Value) (hb : Blk w g 5 cs) (h3 : 9 ≤ n) (ho : o + n ≤ cs.length) (hm : cs.length ≤ maxLen) (h0 : -9223372036854775808 ≤ u) (hu : u ≤ 9223372036854775807) :
    Calls Try.prog 63 #[.slice (some ⟨g, o, none⟩) n c, .int .i64 u] w (Wrote w g cs o (bs (211 :: be u 8))) := by
  obtain ⟨v0, c0⟩ := blk_at hb (o + 0) (by omega)
  obtain ⟨v1, c1⟩ := blk_at hb (o + 1) (by omega)
  obtain ⟨v2, c2⟩ := blk_at hb (o + 2) (by omega)
  obtain ⟨v3, c3⟩ := blk_at hb (o + 3) (by omega)
  obtain ⟨v4, c4⟩ := blk_at hb (o + 4) (by omega)
  obtain ⟨v5, c5⟩ := blk_at hb (o + 5) (by omega)
  obtain ⟨v6, c6⟩ := blk_at hb (o + 6) (by omega)
  obtain ⟨v7, c7⟩ := blk_at hb (o + 7) (by omega)
  obtain ⟨v8, c8⟩ := blk_at hb (o + 8) (by omega)
  have f0 := hb.frozen (o + 0)
  have f1 := hb.frozen (o + 1)
  have f2 := hb.frozen (o + 2)
  have f3 := hb.frozen (o + 3)
  have f4 := hb.frozen (o + 4)
  have f5 := hb.frozen (o + 5)
  have f6 := hb.frozen (o + 6)
  have f7 := hb.frozen (o + 7)
  have f8 := hb.frozen (o + 8)
  simp only [Nat.add_zero] at c0 f0
  have HB := Lib.hid hb
  have hm' : cs.length ≤ 9223372036854775807 := by unfold maxLen at hm; omega
  clear hb
  have hv : bs (211 :: be u 8) = [.int .u8 211, .int .u8 (u / 72057594037927936 % 256), .int .u8 (u / 281474976710656 % 256), .int .u8 (u / 1099511627776 % 256), .int .u8 (u / 4294967296 % 256), .int .u8 (u / 16777216 % 256), .int .u8 (u / 65536 % 256), .int .u8 (u / 256 % 256), .int .u8 (u % 256)] := by
    have e7 : byt u 7 = u / 72057594037927936 % 256 := by unfold byt; simp only [Int.reducePow] <;> omega
    have e6 : byt u 6 = u / 281474976710656 % 256 := by unfold byt; simp only [Int.reducePow] <;> omega
    have e5 : byt u 5 = u / 1099511627776 % 256 := by unfold byt; simp only [Int.reducePow] <;> omega
    have e4 : byt u 4 = u / 4294967296 % 256 := by unfold byt; simp only [Int.reducePow] <;> omega
    have e3 : byt u 3 = u / 16777216 % 256 := by unfold byt; simp only [Int.reducePow] <;> omega
    have e2 : byt u 2 = u / 65536 % 256 := by unfold byt; simp only [Int.reducePow] <;> omega
    have e1 : byt u 1 = u / 256 % 256 := by unfold byt; simp only [Int.reducePow] <;> omega
    have e0 : byt u 0 = u % 256 := by unfold byt; simp only [Int.reducePow] <;> omega
    simp only [be, bs, List.map_cons, List.map_nil, e0, e1, e2, e3, e4, e5, e6, e7]
  rw [hv]
  clear hv
  go_enter Try.func63, Try.ntmps63
  go_wp2
  go_end0
  exact wrote_wr HB.out o _ (by simp only [List.length_cons, List.length_nil]; omega)


theorem prefixu16_calls (w : World) (g o n c : Nat) (p u : Int) (cs : List Value) (hb : Blk w g 5 cs) (h3 : 3 ≤ n) (ho : o + n ≤ cs.length) (hm : cs.length ≤ maxLen) (h0 : 0 ≤ u) (hu : u ≤ 65535) :
    Calls Try.prog 32 #[.slice (some ⟨g, o, none⟩) n c, .int .u8 p, .int .u16 u] w (Wrote w g cs o (bs (p :: be u 2))) := by
  obtain ⟨v0, c0⟩ := blk_at hb (o + 0) (by omega)
  obtain ⟨v1, c1⟩ := blk_at hb (o + 1) (by omega)
  obtain ⟨v2, c2⟩ := blk_at hb (o + 2) (by omega)
  have f0 := hb.frozen (o + 0)
  have f1 := hb.frozen (o + 1)
  have f2 := hb.frozen (o + 2)
  simp only [Nat.add_zero] at c0 f0
  have HB := Lib.hid hb
  have hm' : cs.length ≤ 9223372036854775807 := by unfold maxLen at hm; omega
  clear hb
  have hv : bs (p :: be u 2) = [.int .u8 p, .int .u8 (u / 256), .int .u8 (u % 256)] := by
    have e1 : byt u 1 = u / 256 := by unfold byt; simp only [Int.reducePow] <;> omega
    have e0 : byt u 0 = u % 256 := by unfold byt; simp only [Int.reducePow] <;> omega
    simp only [be, bs, List.map_cons, List.map_nil, e0, e1]
  rw [hv]
  clear hv
  go_enter Try.func32, Try.ntmps32
  go_wp2
  go_end0
  exact wrote_wr HB.out o _ (by simp only [List.length_cons, List.length_nil]; omega)

theorem prefixu32_calls (w : World) (g o n c : Nat) (p u : Int) (cs : List Value) (hb : Blk w g 5 cs) (h3 : 5 ≤ n) (ho : o + n ≤ cs.length) (hm : cs.length ≤ maxLen) (h0 : 0 ≤ u) (hu : u ≤ 4294967295) :
    Calls Try.prog 33 #[.slice (some ⟨g, o, none⟩) n c, .int .u8 p, .int .u32 u] w (Wrote w g cs o (bs (p :: be u 4))) := by
  obtain ⟨v0, c0⟩ := blk_at hb (o + 0) (by omega)
  obtain ⟨v1, c1⟩ := blk_at hb (o + 1) (by omega)
  obtain ⟨v2, c2⟩ := blk_at hb (o + 2) (by omega)
  obtain ⟨v3, c3⟩ := blk_at hb (o + 3) (by omega)
  obtain ⟨v4, c4⟩ := blk_at hb (o + 4) (by omega)
  have f0 := hb.frozen (o + 0)
  have f1 := hb.frozen (o + 1)
  have f2 := hb.frozen (o + 2)
  have f3 := hb.frozen (o + 3)
  have f4 := hb.frozen (o + 4)
  simp only [Nat.add_zero] at c0 f0
  have HB := Lib.hid hb
  have hm' : cs.length ≤ 9223372036854775807 := by unfold maxLen at hm; omega
  clear hb
  have hv : bs (p :: be u 4) = [.int .u8 p, .int .u8 (u / 16777216), .int .u8 (u / 65536 % 256), .int .u8 (u / 256 % 256), .int .u8 (u % 256)] := by
    have e3 : byt u 3 = u / 16777216 := by unfold byt; simp only [Int.reducePow] <;> omega
    have e2 : byt u 2 = u / 65536 % 256 := by unfold byt; simp only [Int.reducePow] <;> omega
    have e1 : byt u 1 = u / 256 % 256 := by unfold byt; simp only [Int.reducePow] <;> omega
    have e0 : byt u 0 = u % 256 := by unfold byt; simp only [Int.reducePow] <;> omega
    simp only [be, bs, List.map_cons, List.map_nil, e0, e1, e2, e3]
  rw [hv]
  clear hv
  go_enter Try.func33, Try.ntmps33
  go_wp2
  go_end0
  exact wrote_wr HB.out o _ (by simp only [List.length_cons, List.length_nil]; omega)


end Go.Proofs.Ytfhaddnacdjpoaa
