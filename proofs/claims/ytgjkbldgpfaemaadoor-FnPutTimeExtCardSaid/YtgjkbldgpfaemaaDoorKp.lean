/- msgp.AppendBytes: a head and the bytes behind it. PRINTED by wip/genbin.py. -/
import Derived.Test.YtgjkbldgpfaemaaDoorKk
namespace Go.Proofs.YtgjkbldgpfaemaaDoor
open Go.RowKit
set_option linter.unusedVariables false

/-- What 'ensure' leaves, over bytes. -/
def EnsuredB (w : World) (g : Nat) (l : List Int) (sz : Nat) (e : Ending) (w' : World) : Prop :=
  ∃ g' cs', e = .returned (.tuple #[.slice (some ⟨g', 0, none⟩) (l.length + sz) cs'.length, .int .i64 l.length]) ∧ Blk w' g' 5 cs' ∧ l.length + sz ≤ cs'.length ∧ cs'.length ≤ maxLen ∧ cs'.take l.length = bs l ∧
    Below w.heap.size w w' ∧ (g' = g ∨ g' = w.heap.size)
theorem ensure_b (w : World) (g sz : Nat) (z : Int) (hz : z = (sz : Int)) (cs : List Value) (l : List Int) (hb : Blk w g 5 cs) (hx : cs.take l.length = bs l) (hm : cs.length ≤ maxLen) (hs : l.length + sz ≤ 1099511627776) :
    Calls Tryd.prog 20 #[.slice (some ⟨g, 0, none⟩) l.length cs.length, .int .i64 z] w (EnsuredB w g l sz) := by
  have e := ensure_int w g sz z hz cs (bs l) hb (by rw [bs_length]; exact hx) hm (by rw [bs_length]; exact hs) (bs_one l)
  unfold Ensured at e
  rw [bs_length] at e
  exact e

def binHead (n : Int) : List Int := if n ≤ 255 then 196 :: be n 1 else if n ≤ 65535 then 197 :: be n 2 else 198 :: be n 4
theorem splice_take (cs : List Value) (n : Nat) (news : List Value) (h : n + news.length ≤ cs.length) : (splice cs n news).take (n + news.length) = cs.take n ++ news := by
  unfold splice
  rw [← List.append_assoc, List.take_left' (by simp; omega)]

/-- Behind two writes, the second behind the first. -/
theorem app_two {w0 w w1 w2 w3 : World} {B g g' : Nat} {cs' : List Value} {l hd r : List Int} (hw0 : Below B w0 w) (hB : B ≤ g) (hBw : B ≤ w.heap.size) (hb : Below w.heap.size w w1) (hk : g' = g ∨ g' = w.heap.size) (hn : l.length + (hd.length + r.length) ≤ cs'.length) (hm : cs'.length ≤ maxLen) (ht : cs'.take l.length = bs l)
    (hg : w1.grownBy w2 (some g')) (hblk : w3.heap[g']? = some (.cells (splice (splice cs' l.length (bs hd)) (l.length + hd.length) (bs r)).toArray 5 (0, 0))) (hg2 : Below B w0 w3) (v : Value)
    (hv : v = .slice (some ⟨g', 0, none⟩) (l.length + hd.length + r.length) cs'.length) :
    AppB w0 B (l ++ (hd ++ r)) (.returned v) w3 := by
  have hg' : B ≤ g' := by rcases hk with rfl | rfl <;> omega
  have l1 : (splice cs' l.length (bs hd)).length = cs'.length := length_splice _ _ _ (by rw [bs_length]; omega)
  have l2 : (splice (splice cs' l.length (bs hd)) (l.length + hd.length) (bs r)).length = cs'.length := by rw [length_splice _ _ _ (by rw [bs_length, l1]; omega), l1]
  have t1 := splice_take cs' l.length (bs hd) (by rw [bs_length]; omega)
  have t2 := splice_take (splice cs' l.length (bs hd)) (l.length + hd.length) (bs r) (by rw [bs_length, l1]; omega)
  rw [bs_length] at t1 t2
  have hl : (l ++ (hd ++ r)).length = l.length + hd.length + r.length := by simp; omega
  refine ⟨g', splice (splice cs' l.length (bs hd)) (l.length + hd.length) (bs r), by rw [hv, l2, hl], hblk, by rw [l2, hl]; omega, by rw [l2]; exact hm, ?_, hg', hg2⟩
  rw [hl, t2, t1, ht, bs_append, bs_append, List.append_assoc]

theorem dp_pos {g n c m : Nat} (h : 0 < m → n + m ≤ c) (hm : 0 < m) : (if c = n then some (⟨g, 0, none⟩ : Addr) else some ⟨g, n, none⟩) = some ⟨g, n, none⟩ := by
  rw [if_neg (by have := h hm; omega)]


end Go.Proofs.YtgjkbldgpfaemaaDoor
