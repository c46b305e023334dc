/- The contract of the laws' 'appended': true where what stands behind is read as the value. -/
import Derived.Test.YtfhaddnacdjpoaaKh
import Derived.Laws.BytesArg
namespace Go.Proofs.Ytfhaddnacdjpoaa
open Go.RowKit
set_option linter.unusedVariables false

theorem conv_reads {P : Program} {w : World} {B n c : Nat} {A : Option Addr} {l : List Int} (h : Reads w B 1 A n (bs l)) (src e dst : TypeId) (hs : P.underlying src = some (.slice e)) (he : P.underlying e = some (.int .u8)) (hd : P.underlying dst = some .string) :
    (convert src dst (.slice A n c)).run P w = .ok (.string (strOfNums l)) w := by
  have hn := h.bytes
  rcases A with _ | ad
  · have h0 : n = 0 := by
      rcases Nat.eq_zero_or_pos n with h0 | h0
      · exact h0
      · obtain ⟨_, h1, _⟩ := h.2 h0
        cases h1
    have : l = [] := List.eq_nil_of_length_eq_zero (by omega)
    subst this
    exact run_convert_bytes_nil w src e hs he n c dst hd
  · have hl : (loadCells ad n).run P w = .ok (l.map (Value.int .u8)).toArray w := by
      have := run_loadCells_list (P := P) w ad (l.map (Value.int .u8)) (fun j v hj => by
        have hj0 : 0 < n := by
          rcases Nat.eq_zero_or_pos n with h0 | h0
          · have : l = [] := List.eq_nil_of_length_eq_zero (by omega)
            subst this
            simp at hj
          · exact h0
        obtain ⟨ad', h1, _, h2⟩ := h.2 hj0
        injection h1 with h1
        subst h1
        exact h2 j v hj)
      simpa [hn] using this
    rw [run_convert_bytes_string w src dst e _ n c hs he hd, run_bytesToString w ad n c l hl, foldl_push_bytes]
    simp [strOfNums, ByteArray.empty, ByteArray.emptyWithCapacity]
    rfl

end Go.Proofs.Ytfhaddnacdjpoaa
