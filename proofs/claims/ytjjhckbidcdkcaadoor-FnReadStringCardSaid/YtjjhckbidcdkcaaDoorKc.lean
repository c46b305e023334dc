/- Contracts of the small functions of msgp that write a number behind a code: what they leave in the block that they write into. -/
import Derived.Test.YtjjhckbidcdkcaaDoorKb
namespace Go.Proofs.YtjjhckbidcdkcaaDoor
open Go.RowKit
set_option linter.unusedVariables false

theorem splice_nil (cs : List Value) (o : Nat) : splice cs o [] = cs := by simp [splice]
theorem splice_cons (cs : List Value) (o : Nat) (x : Value) (xs : List Value) (h : o < cs.length) : splice cs o (x :: xs) = splice (cs.set o x) (o + 1) xs := by
  have e : cs.set o x = cs.take o ++ ([x] ++ cs.drop (o + 1)) := by
    rw [List.set_eq_take_append_cons_drop, if_pos h]; rfl
  have hl : (cs.take o).length = o := by rw [List.length_take]; omega
  have e2 : cs.take o ++ ([x] ++ cs.drop (o + 1)) = (cs.take o ++ [x]) ++ cs.drop (o + 1) := by simp
  have hl2 : (cs.take o ++ [x]).length = o + 1 := by rw [List.length_append, hl]; rfl
  have hd : List.drop (o + 1 + xs.length) (List.take o cs ++ [x]) = [] := List.drop_eq_nil_of_le (by omega)
  unfold splice
  rw [e, e2, List.take_left' hl2, List.drop_append, hd, hl2, List.drop_drop]
  simp only [List.length_cons, List.cons_append, List.nil_append, List.append_assoc]
  rw [show o + (xs.length + 1) = o + 1 + (o + 1 + xs.length - (o + 1)) by omega]

/-- The i-th byte of a number, from the lowest. -/
def byt (u : Int) (i : Nat) : Int := u / 256 ^ i % 256
/-- A number in so many bytes, the highest first. -/
def be (u : Int) : Nat → List Int
  | 0 => []
  | k + 1 => byt u k :: be u k
theorem be_length (u : Int) (k : Nat) : (be u k).length = k := by induction k <;> simp [be, *]
theorem byt_range (u : Int) (i : Nat) : 0 ≤ byt u i ∧ byt u i ≤ 255 := by unfold byt; omega
theorem byt0 (u : Int) : byt u 0 = u % 256 := by unfold byt; omega

/-- What a function leaves that writes some cells into a block at a place. -/
def Wrote (w : World) (g : Nat) (cs : List Value) (o : Nat) (news : List Value) (e : Ending) (w' : World) : Prop :=
  e = .returned (.tuple #[]) ∧ Blk w' g 5 (splice cs o news) ∧ w.grownBy w' (some g) ∧ w'.heap.size = w.heap.size

theorem blk_at {w : World} {g : Nat} {t : TypeId} {cs : List Value} (hb : Blk w g t cs) (i : Nat) (h : i < cs.length) : ∃ v, w.cell? ⟨g, i, none⟩ = some v :=
  ⟨cs[i], by rw [hb.cell, List.getElem?_eq_getElem h]⟩
/-- Some cells are set, one behind the other. -/
def wr (w : World) (g : Nat) : Nat → List Value → World
  | _, [] => w
  | o, x :: xs => wr (w.setCell ⟨g, o, none⟩ x) g (o + 1) xs
theorem wr_blk (g : Nat) (t : TypeId) (news : List Value) : ∀ (w : World) (cs : List Value) (o : Nat), Blk w g t cs → o + news.length ≤ cs.length → Blk (wr w g o news) g t (splice cs o news) := by
  induction news with
  | nil => intro w cs o hb _; rw [splice_nil]; exact hb
  | cons x xs ih =>
    intro w cs o hb h
    simp only [List.length_cons] at h
    rw [splice_cons cs o x xs (by omega)]
    exact ih _ _ _ (hb.set_ o x) (by rw [List.length_set]; omega)
theorem wr_size (g : Nat) (news : List Value) : ∀ (w : World) (o : Nat), (wr w g o news).heap.size = w.heap.size := by
  induction news with
  | nil => intro w o; rfl
  | cons x xs ih => intro w o; rw [wr, ih]; simp [World.setCell]
theorem wr_block (g : Nat) (news : List Value) : ∀ (w : World) (o k : Nat), k ≠ g → (wr w g o news).heap[k]? = w.heap[k]? := by
  induction news with
  | nil => intro w o k _; rfl
  | cons x xs ih => intro w o k hk; rw [wr, ih _ _ _ hk]; exact Below.heap_setCell w _ x k hk
theorem wr_else (g : Nat) (news : List Value) : ∀ (w : World) (o : Nat), (wr w g o news).os = w.os ∧ (wr w g o news).tape = w.tape ∧ (wr w g o news).output = w.output := by
  induction news with
  | nil => intro w o; exact ⟨rfl, rfl, rfl⟩
  | cons x xs ih => intro w o; exact ih _ _
theorem wrote_wr {w : World} {g : Nat} {cs : List Value} (hb : Blk w g 5 cs) (o : Nat) (news : List Value) (h : o + news.length ≤ cs.length) : Wrote w g cs o news (.returned (.tuple #[])) (wr w g o news) :=
  ⟨rfl, wr_blk g _ news w cs o hb h, ⟨(wr_else g news w o).1, (wr_else g news w o).2.1, (wr_else g news w o).2.2, by rw [wr_size]; exact Nat.le_refl _, fun k _ hk => wr_block g news w o k (fun e => hk (by rw [e]))⟩, wr_size g news w o⟩














end Go.Proofs.YtjjhckbidcdkcaaDoor
