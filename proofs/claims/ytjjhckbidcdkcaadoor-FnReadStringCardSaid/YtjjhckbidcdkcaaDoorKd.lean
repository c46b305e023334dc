/- Contracts of copied and of msgp's appending functions: what they return begins with what was there, and ends with what was appended. -/
import Derived.Test.YtjjhckbidcdkcaaDoorKc
import Derived.Test.YtjjhckbidcdkcaaDoorBit
namespace Go.Proofs.YtjjhckbidcdkcaaDoor
open Go.RowKit
set_option linter.unusedVariables false

/-- A call returned a row of its own, from block B on, that holds xs; below block B nothing has turned. -/
def App (w : World) (B : Nat) (xs : List Value) (e : Ending) (w' : World) : Prop :=
  ∃ g cs, e = .returned (.slice (some ⟨g, 0, none⟩) xs.length cs.length) ∧ Blk w' g 5 cs ∧ xs.length ≤ cs.length ∧ cs.length ≤ maxLen ∧ cs.take xs.length = xs ∧ B ≤ g ∧ Below B w w'

theorem app_own {w w' : World} {B : Nat} {v : Value} {xs : List Value} (h : w'.ownsRow B 5 1 v xs.length xs) (h0 : v ≠ .slice none 0 0) (hb : Below B w w') : App w B xs (.returned v) w' := by
  obtain ⟨g, cs, rfl, hk, hB, hn, hm, ht⟩ := own_blk h (.inr h0)
  exact ⟨g, cs, rfl, hk, hn, hm, ht, hB, hb⟩

set_option maxHeartbeats 1000000 in
theorem copied_calls (w : World) (A : Option Addr) (c : Nat) (xs : List Value) (h : Reads w w.heap.size 1 A xs.length xs) (h1 : ∀ u ∈ xs, u.oneCell' = true) (hn : xs.length ≤ 70368744177664) :
    Calls Tryd.prog 30 #[.slice A xs.length c] w (App w w.heap.size xs) := by
  obtain ⟨i0, hi0, hz0, hz1, hz2⟩ := info_parts infoU8
  have H := Lib.hid h
  have H1 := Lib.hid h1
  clear h h1
  go_enter Tryd.func30, Tryd.ntmps30
  go_wp2_with (first
    | (at_builtin
       go_must (
         (refine wpList_append_any _ rfl (.tmp 3) (.tmp 4) 26 rfl w.heap.size 5 i0 _ 1 1 Tryd.underlying26 hi0 hz0 hz1 hz2 rfl (by omega) (.slice (some ⟨w.heap.size, 0, none⟩) 0 0) 0 [] rfl ?_ w.heap.size A xs.length c xs rfl ?_ H1.out (by simp only [maxLen]; omega) (by omega) (by simp) ?_)
         · exact World.ownsRow_made w _ 0 (Nat.le_refl _) (by simp) (by simp)
         · exact H.out.alloc (Nat.le_refl _) _
         intro v1 w1 hown1 hg1 hat1)))
  go_ret
  have hne : v1 ≠ .slice none 0 0 := by
    rintro rfl
    rcases hat1 with h | h <;> simp [Value.ownBlock] at h
  have hown : w1.ownsRow w.heap.size 5 1 v1 xs.length xs := by simpa using hown1
  refine app_own hown hne (((Below.refl _ _).alloc (Nat.le_refl _) _).grown hg1 (by simp) (fun k hk => ?_))
  simp [Value.ownBlock] at hk
  omega
/-- Behind 'ensure' and a write into its last cells: what there was, and what was written. -/
theorem app_wrote {w0 w w1 w2 : World} {B g g' : Nat} {cs' xs news : List Value} (hw0 : Below B w0 w) (hB : B ≤ g) (hBw : B ≤ w.heap.size) (hb : Below w.heap.size w w1) (hk : g' = g ∨ g' = w.heap.size) (hn : xs.length + news.length ≤ cs'.length) (hm : cs'.length ≤ maxLen) (ht : cs'.take xs.length = xs)
    (hblk : Blk w2 g' 5 (splice cs' xs.length news)) (hg : w1.grownBy w2 (some g')) :
    App w0 B (xs ++ news) (.returned (.slice (some ⟨g', 0, none⟩) (xs.length + news.length) cs'.length)) w2 := by
  have hl : (splice cs' xs.length news).length = cs'.length := length_splice _ _ _ hn
  have hg' : B ≤ g' := by rcases hk with rfl | rfl <;> omega
  refine ⟨g', splice cs' xs.length news, by rw [hl, List.length_append], hblk, by rw [hl, List.length_append]; omega, by rw [hl]; exact hm, ?_, hg', ?_⟩
  · unfold splice
    rw [ht, ← List.append_assoc, List.take_left' (by simp)]
  · exact (hw0.trans (hb.mono hBw)).grown hg (by have := hb.size; omega) (fun k hk' => by injection hk' with e; omega)

def encU (u : Int) : List Int :=
  if u ≤ 127 then [u] else if u ≤ 255 then 204 :: be u 1 else if u ≤ 65535 then 205 :: be u 2 else if u ≤ 4294967295 then 206 :: be u 4 else 207 :: be u 8

def encI (u : Int) : List Int :=
  if u < -2147483648 then 211 :: be u 8 else if u < -32768 then 210 :: be u 4 else if u < -128 then 209 :: be u 2 else if u < -32 then 208 :: be u 1 else if u < 0 then [u + 256] else
  if u ≤ 127 then [u] else if u ≤ 32767 then 209 :: be u 2 else if u ≤ 2147483647 then 210 :: be u 4 else 211 :: be u 8

/-- PRINTED by wip/gend.py. One cell of its own reads. -/
theorem reads_one (w : World) (v : Value) (t : TypeId) : Reads (w.alloc (.cells #[v] t)) (w.heap.size + 1) 1 (some ⟨w.heap.size, 0, none⟩) 1 [v] := by
  have h := (Blk.new w t [v]).reads 0 1 (by simp)
  simpa using h

end Go.Proofs.YtjjhckbidcdkcaaDoor
