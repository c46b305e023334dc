/- A slice of booleans that came in. -/
import Derived.Test.YtideagfkfipbbaaDoorOpen
import Derived.Deep.Grids
namespace Go.Proofs.YtideagfkfipbbaaDoor
open Go.ChangeShapes Go.WideShapes Go.ChangeAt Go.RowKit
section
variable {H : Type} {enc : TypeId × Value → H} {W : World} {base : Nat} {held : Bool}
theorem open_boolsT {t e : TypeId} {a : Option Addr} {len cap : Nat} {d : DataW H} {ps : List MemPlace} (hu : Tryd.prog.underlying t = some (.slice e)) (he : Tryd.prog.underlying e = some .bool) (hc : Tryd.prog.cellsOf e = 1)
    (h : DataW.Trod enc Tryd.prog W base (fun _ => true) held t (.slice a len cap) d ps) :
    ∃ l : List Bool, l.length = len ∧ Reads W W.heap.size 1 a l.length (l.map fun x => Value.bool x) ∧ l.length ≤ cap ∧ cap ≤ maxLen := by
  obtain ⟨fuel, hf⟩ := h
  rcases Go.Deep.open_bools hu he hc hf with ⟨hcs, _⟩ | ⟨x, l, c, B, hcs, _, hl, hm, _, hcell⟩
  · simp [Value.cells] at hcs
    obtain ⟨rfl, rfl, rfl⟩ := hcs
    exact ⟨[], rfl, Reads.none_, Nat.le_refl _, by simp [maxLen]⟩
  · simp [Value.cells] at hcs
    obtain ⟨rfl, rfl, rfl⟩ := hcs
    have hlen : ((List.range len).map B).length = len := by simp
    refine ⟨(List.range len).map B, hlen, ⟨by simp, fun hn => ⟨x, rfl, ?_, fun j u hu => ?_⟩⟩, by omega, hm⟩
    · have := World.block_lt_of_cell? W _ (hcell 0 (by omega))
      rwa [block_of_add] at this
    · rw [List.getElem?_map] at hu
      have hj : j < len := by
        rcases Nat.lt_or_ge j len with h | h
        · exact h
        · rw [List.getElem?_eq_none (by omega)] at hu; cases hu
      rw [List.getElem?_map, List.getElem?_range hj] at hu
      rw [hcell j (by omega), ← hu]
      rfl
end
end Go.Proofs.YtideagfkfipbbaaDoor
