/- The bytes of a string whose bytes are told, in a new block. Cut from XTf by wip/genbl.py. -/
import Derived.Test.YtohainhkplombaaDoorKi
import Derived.Lib.ConvBytes
import Derived.Laws.AppendOwn
namespace Go.Proofs.YtohainhkplombaaDoor
open Go.RowKit
set_option linter.unusedVariables false

/-- '[]byte(s)' of a string whose bytes are told: a new block that reads them. -/
theorem conv_str (l : List Int) (hl : IsB l) (hn : l.length ≤ 1099511627776) : ∃ (cap : World → Nat) (WB : World → World), (∀ w, (convert 9 24 (.string (strOfNums l))).run Tryd.prog w = .ok (.slice (some ⟨w.heap.size, 0, none⟩) l.length (cap w)) (WB w)) ∧
    ∀ w, Reads (WB w) (w.heap.size + 1) 1 (some ⟨w.heap.size, 0, none⟩) l.length (bs l) ∧ l.length ≤ cap w ∧ cap w ≤ maxLen ∧ Below w.heap.size w (WB w) ∧ (WB w).heap.size = w.heap.size + 1 := by
  have hs := strOfNums_size l
  refine ⟨fun w => grownCap w l.length 0 5, fun w => Lib.bytesWorld w 5 (strOfNums l), fun w => ?_, fun w => ⟨?_, grownCap_ge _ _ _ _, grownCap_le_maxLen _ _ _ _ (by simp only [maxLen]; omega), ?_, Lib.bytesWorld_size _ _ _⟩⟩
  · have e := Lib.run_convert_string_bytes (P := Tryd.prog) w 9 24 5 (strOfNums l) Tryd.underlying9 Tryd.underlying24 Tryd.underlying5
    rw [hs] at e
    exact e
  · refine ⟨by rw [bs_length]; omega, fun _ => ⟨_, rfl, by simp, fun j u hu => ?_⟩⟩
    have hj : j < l.length := by
      have := (List.getElem?_eq_some_iff.1 hu).1
      rwa [bs_length] at this
    rw [add_lit, Nat.zero_add, Lib.bytesWorld_cell w 5 (strOfNums l) j (by rw [hs]; exact hj)]
    have hb := hl _ (getD_mem l j hj)
    have hu' : u = .int .u8 (l.getD j 0) := by
      have : (bs l)[j]? = some (.int .u8 (l.getD j 0)) := by simp [bs, List.getElem?_eq_getElem hj, List.getD_eq_getElem?_getD]
      rw [this] at hu
      exact (Option.some.inj hu).symm
    rw [hu', strOfNums_data, List.getD_eq_getElem?_getD, List.getElem?_map, List.getElem?_eq_getElem hj]
    rw [List.getD_eq_getElem?_getD, List.getElem?_eq_getElem hj] at hb ⊢
    simp only [Option.map_some, Option.getD_some] at hb ⊢
    rw [UInt8.toNat_ofNat']
    congr 2
    omega
  · exact ⟨rfl, rfl, rfl, by rw [Lib.bytesWorld_size]; omega, fun k hk => Lib.bytesWorld_at_old w _ _ k hk⟩

end Go.Proofs.YtohainhkplombaaDoor
