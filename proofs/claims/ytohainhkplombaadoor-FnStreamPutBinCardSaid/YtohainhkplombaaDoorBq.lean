/- How a list of strings that came in opens: as lists of bytes. By hand. -/
import Derived.Test.YtohainhkplombaaDoorBz
import Derived.SliceStrings
import Derived.Test.YtohainhkplombaaDoorOpen
namespace Go.Proofs.YtohainhkplombaaDoor
open Go.ChangeShapes Go.WideShapes Go.ChangeAt Go.RowKit

/-- The bytes of a string. -/
def numsOf (s : ByteArray) : List Int := s.data.toList.map fun b => (b.toNat : Int)
theorem numsOf_str (s : ByteArray) : strOfNums (numsOf s) = s := by
  have e : ((s.data.toList.map fun b => (b.toNat : Int)).map fun n => UInt8.ofNat n.toNat) = s.data.toList := by
    rw [List.map_map]
    conv => rhs; rw [← List.map_id s.data.toList]
    exact List.map_congr_left fun b _ => by
      show UInt8.ofNat ((b.toNat : Int).toNat) = b
      rw [Int.toNat_natCast]
      exact UInt8.ofNat_toNat
  cases s with
  | mk data =>
    unfold strOfNums numsOf
    rw [e]
theorem numsOf_len (s : ByteArray) : (numsOf s).length = s.size := by
  unfold numsOf
  rw [List.length_map, Array.length_toList]
  rfl
theorem numsOf_isB (s : ByteArray) : IsB (numsOf s) := by
  intro x hx
  obtain ⟨b, _, rfl⟩ := List.mem_map.1 hx
  have := b.toNat_lt
  omega

section
variable {H : Type} {enc : TypeId × Value → H} {W : World} {base : Nat} {held : Bool}
theorem open_strsT {t e : TypeId} {a : Option Addr} {len cap : Nat} {d : DataW H} {ps : List MemPlace} (hu : Tryd.prog.underlying t = some (.slice e)) (he : Tryd.prog.underlying e = some .string) (hc : Tryd.prog.cellsOf e = 1)
    (h : DataW.Trod enc Tryd.prog W base (fun _ => true) held t (.slice a len cap) d ps) :
    ∃ l : List (List Int), l.length = len ∧ Reads W W.heap.size 1 a l.length (Go.Proofs.YtohainhkplombaaDoor.strs l) ∧ l.length ≤ cap ∧ cap ≤ maxLen ∧ ∀ x ∈ l, IsB x ∧ x.length ≤ 9223372036854775807 := by
  obtain ⟨fuel, hf⟩ := h
  rcases open_strings hu he hc hf with ⟨hcs, _⟩ | ⟨x, l, c, ss, hcs, _, hl, hm, hz, _, hcell, hwz⟩
  · simp [Value.cells] at hcs
    obtain ⟨rfl, rfl, rfl⟩ := hcs
    exact ⟨[], rfl, Reads.none_, Nat.le_refl _, by simp [maxLen], fun x hx => by cases hx⟩
  · simp [Value.cells] at hcs
    obtain ⟨rfl, rfl, rfl⟩ := hcs
    have hz' : ss.length = cap := by simpa using hz
    have hlen : ((ss.take len).map numsOf).length = len := by rw [List.length_map, List.length_take]; omega
    have hst : Go.Proofs.YtohainhkplombaaDoor.strs ((ss.take len).map numsOf) = (ss.take len).map Value.string := by
      unfold Go.Proofs.YtohainhkplombaaDoor.strs
      rw [List.map_map]
      exact List.map_congr_left fun s _ => by simp [numsOf_str]
    refine ⟨(ss.take len).map numsOf, hlen, ⟨by rw [hst]; simp, fun hn => ⟨x, rfl, ?_, fun j u hu => ?_⟩⟩, by omega, hm, fun y hy => ?_⟩
    · have := World.block_lt_of_cell? W _ (hcell 0 (by omega))
      rwa [block_of_add] at this
    · rw [hst, List.getElem?_map] at hu
      have hj : j < len := by
        rcases Nat.lt_or_ge j len with h | h
        · exact h
        · rw [List.getElem?_eq_none (by rw [List.length_take]; omega)] at hu; cases hu
      rw [List.getElem?_take, if_pos hj, List.getElem?_eq_getElem (by omega)] at hu
      rw [hcell j (by omega), ← hu]
      simp [List.getElem?_eq_getElem (show j < ss.length by omega)]
    · obtain ⟨s, hs, rfl⟩ := List.mem_map.1 hy
      have := hwz s (List.mem_of_mem_take hs)
      exact ⟨numsOf_isB s, by rw [numsOf_len]; simpa [maxLen] using this⟩
end
end Go.Proofs.YtohainhkplombaaDoor
