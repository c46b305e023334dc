/- Contracts of copied and of msgp's appending functions: what they return begins with what was there, and ends with what was appended. -/
import Derived.Test.YtohainhkplombaaDoorKc
import Derived.Test.YtohainhkplombaaDoorBit
namespace Go.Proofs.YtohainhkplombaaDoor
open Go.RowKit
set_option linter.unusedVariables false

/-- A call returned a row of its own, from block B on, that holds xs; below block B nothing has turned. -/
def App (w : World) (B : Nat) (xs : List Value) (e : Ending) (w' : World) : Prop :=
  ∃ g cs, e = .returned (.slice (some ⟨g, 0, none⟩) xs.length cs.length) ∧ Blk w' g 5 cs ∧ xs.length ≤ cs.length ∧ cs.length ≤ maxLen ∧ cs.take xs.length = xs ∧ B ≤ g ∧ Below B w w'

theorem app_own {w w' : World} {B : Nat} {v : Value} {xs : List Value} (h : w'.ownsRow B 5 1 v xs.length xs) (h0 : v ≠ .slice none 0 0) (hb : Below B w w') : App w B xs (.returned v) w' := by
  obtain ⟨g, cs, rfl, hk, hB, hn, hm, ht⟩ := own_blk h (.inr h0)
  exact ⟨g, cs, rfl, hk, hn, hm, ht, hB, hb⟩

/-- Behind 'ensure' and a write into its last cells: what there was, and what was written. -/
theorem app_wrote {w0 w w1 w2 : World} {B g g' : Nat} {cs' xs news : List Value} (hw0 : Below B w0 w) (hB : B ≤ g) (hBw : B ≤ w.heap.size) (hb : Below w.heap.size w w1) (hk : g' = g ∨ g' = w.heap.size) (hn : xs.length + news.length ≤ cs'.length) (hm : cs'.length ≤ maxLen) (ht : cs'.take xs.length = xs)
    (hblk : Blk w2 g' 5 (splice cs' xs.length news)) (hg : w1.grownBy w2 (some g')) :
    App w0 B (xs ++ news) (.returned (.slice (some ⟨g', 0, none⟩) (xs.length + news.length) cs'.length)) w2 := by
  have hl : (splice cs' xs.length news).length = cs'.length := length_splice _ _ _ hn
  have hg' : B ≤ g' := by rcases hk with rfl | rfl <;> omega
  refine ⟨g', splice cs' xs.length news, by rw [hl, List.length_append], hblk, by rw [hl, List.length_append]; omega, by rw [hl]; exact hm, ?_, hg', ?_⟩
  · unfold splice
    rw [ht, ← List.append_assoc, List.take_left' (by simp)]
  · exact (hw0.trans (hb.mono hBw)).grown hg (by have := hb.size; omega) (fun k hk' => by injection hk' with e; omega)

def encU (u : Int) : List Int :=
  if u ≤ 127 then [u] else if u ≤ 255 then 204 :: be u 1 else if u ≤ 65535 then 205 :: be u 2 else if u ≤ 4294967295 then 206 :: be u 4 else 207 :: be u 8

def encI (u : Int) : List Int :=
  if u < -2147483648 then 211 :: be u 8 else if u < -32768 then 210 :: be u 4 else if u < -128 then 209 :: be u 2 else if u < -32 then 208 :: be u 1 else if u < 0 then [u + 256] else
  if u ≤ 127 then [u] else if u ≤ 32767 then 209 :: be u 2 else if u ≤ 2147483647 then 210 :: be u 4 else 211 :: be u 8

/-- PRINTED by wip/gend.py. One cell of its own reads. -/
theorem reads_one (w : World) (v : Value) (t : TypeId) : Reads (w.alloc (.cells #[v] t)) (w.heap.size + 1) 1 (some ⟨w.heap.size, 0, none⟩) 1 [v] := by
  have h := (Blk.new w t [v]).reads 0 1 (by simp)
  simpa using h

end Go.Proofs.YtohainhkplombaaDoor
