/- The laws FnStreamPutUint, FnStreamPutInt: what a Writer wrote is read back. The walks. PRINTED by wip/gens.py. -/
import Derived.Test.YtohainhkplombaaDoorKv
import Derived.Test.YtohainhkplombaaDoorKo
namespace Go.Proofs.YtohainhkplombaaDoor
open Go.RowKit
set_option linter.unusedVariables false

theorem infoPack : (Tryd.prog.info? 31).map (fun i => (i.zero, i.size, i.bytes)) = some (some (.agg #[.int .i64 0, .int .u64 0, .string ⟨#[]⟩, .int .i64 0, .slice none 0 0]), 5, 64) := by kernel_rfl
/-- The cells of a value without values in it. -/
def c5 (k u : Int) : List Value := [.int .i64 k, .int .u64 u, .string ⟨#[]⟩, .int .i64 0, .slice none 0 0]
theorem c5_length (k u : Int) : (c5 k u).length = 5 := rfl
theorem c5_one (k u : Int) : ∀ v ∈ c5 k u, v.oneCell' = true := by
  intro v hv
  simp only [c5, List.mem_cons, List.not_mem_nil, or_false] at hv
  rcases hv with rfl | rfl | rfl | rfl | rfl <;> rfl
theorem reads_five (w : World) (k u : Int) (t : TypeId) : Reads (w.alloc (.cells #[.int .i64 k, .int .u64 u, .string ⟨#[]⟩, .int .i64 0, .slice none 0 0] t)) (w.heap.size + 1) 5 (some ⟨w.heap.size, 0, none⟩) 1 (c5 k u) := by
  refine ⟨rfl, fun _ => ⟨_, rfl, by simp, fun j v hv => ?_⟩⟩
  rw [add_lit, Nat.zero_add]
  exact ((Blk.new w t (c5 k u)).cell j).trans hv
theorem flat5_length (l : List Int) (g : Int → List Value) (hg : ∀ x, (g x).length = 5) : (l.flatMap g).length = l.length * 5 := by
  induction l with
  | nil => rfl
  | cons x xs ih => rw [List.flatMap_cons, List.length_append, hg, ih, List.length_cons]; omega
theorem flat5_at (l : List Int) (g : Int → List Value) (hg : ∀ x, (g x).length = 5) : ∀ k, k < l.length → ∀ j, j < 5 → (l.flatMap g)[k * 5 + j]? = (g (l.getD k 0))[j]? := by
  induction l with
  | nil => intro k hk; simp at hk
  | cons x xs ih =>
    intro k hk j hj
    rw [List.flatMap_cons]
    cases k with
    | zero => rw [List.getElem?_append_left (by rw [hg]; omega)]; simp
    | succ k =>
      rw [List.getElem?_append_right (by rw [hg]; omega), hg]
      have := ih k (by simpa using hk) j hj
      rw [show (k + 1) * 5 + j - 5 = k * 5 + j by omega, this]
      simp
theorem wants_own {w : World} {B c : Nat} {A : Option Addr} {l : List Int} {wk wu : Int → Int} (h : w.ownsRow B 31 5 (.slice A l.length c) l.length (l.flatMap fun x => c5 (wk x) (wu x))) : Wants w w.heap.size A l wk wu := fun h0 => by
  obtain ⟨g, cap, hv, _, hlt⟩ := h.form h0
  have hA : A = some ⟨g, 0, none⟩ := by injection hv
  subst hA
  refine ⟨g, rfl, hlt, fun k hk j u hu => ?_⟩
  have hj : j < 5 := by
    rcases Nat.lt_or_ge j 5 with h | h
    · exact h
    · rw [List.getElem?_eq_none (by simpa using h)] at hu; cases hu
  have := h.cells (g := g) rfl (k * 5 + j) u (by rw [flat5_at l _ (fun _ => rfl) k hk j hj]; exact hu)
  rwa [add_lit, Nat.zero_add] at this

theorem buffers_yes (w : World) (b : Int) (h0 : 18 ≤ b) (h1 : b ≤ 65536) : Calls Tryd.prog 6 #[.int .i64 b, .int .i64 1] w fun e w' => e = .returned (.bool true) ∧ w = w' := by
  go_enter Tryd.func6, Tryd.ntmps6
  go_wp2
  go_ret
  exact ⟨rfl, rfl⟩
theorem buffers_no (w : World) (b : Int) (h : b < 18 ∨ 65536 < b) : Calls Tryd.prog 6 #[.int .i64 b, .int .i64 1] w fun e w' => e = .returned (.bool false) ∧ w = w' := by
  rcases h with h | h
  · go_enter Tryd.func6, Tryd.ntmps6
    go_wp2
    go_ret
    exact ⟨rfl, rfl⟩
  · by_cases h18 : 18 ≤ b
    · go_enter Tryd.func6, Tryd.ntmps6
      go_wp2
      go_ret
      exact ⟨rfl, rfl⟩
    · omega

theorem takeR_encI (u : Int) (h0 : -9223372036854775808 ≤ u) (h1 : u ≤ 9223372036854775807) (rest : List Int) (hrb : IsB rest) (W : World) (B c : Nat) (A : Option Addr) (h : Reads W B 1 A (encI u ++ rest).length (bs (encI u ++ rest))) (hB : B ≤ W.heap.size) (hc : (encI u ++ rest).length ≤ c) (hm : c ≤ maxLen) :
    Calls Tryd.prog 11 #[.slice A (encI u ++ rest).length c, .int .i64 2] W (Coded W B (.agg #[.int .i64 (if 0 ≤ u then 3 else 2), .int .u64 (if 0 ≤ u then u else u + 18446744073709551616), .string ⟨#[]⟩, .int .i64 0, .slice none 0 0]) rest) := by
  by_cases hp : 0 ≤ u
  · rw [if_pos hp, if_pos hp]; exact takeR_encI_pos u hp h1 rest hrb W B c A h hB hc hm
  · rw [if_neg hp, if_neg hp]; exact takeR_encI_neg u h0 (by omega) rest hrb W B c A h hB hc hm
theorem sameInt (u : Int) (h0 : -9223372036854775808 ≤ u) (h1 : u ≤ 9223372036854775807) (W : World) :
    Calls Tryd.prog 12 #[.agg #[.int .i64 2, .int .u64 (IntKind.u64.wrap u), .string ⟨#[]⟩, .int .i64 0, .slice none 0 0], .agg #[.int .i64 (if 0 ≤ u then 3 else 2), .int .u64 (if 0 ≤ u then u else u + 18446744073709551616), .string ⟨#[]⟩, .int .i64 0, .slice none 0 0]] W fun e w' => e = .returned (.bool true) ∧ Below W.heap.size W w' := by
  by_cases hp : 0 ≤ u
  · rw [if_pos hp, if_pos hp, show IntKind.u64.wrap u = u by rw [IntKind.wrap_u64]; omega]
    exact SamePack_pos W u 0 ⟨#[]⟩ hp (by omega)
  · rw [if_neg hp, if_neg hp, show IntKind.u64.wrap u = u + 18446744073709551616 by rw [IntKind.wrap_u64]; omega]
    exact SamePack_neg W (u + 18446744073709551616) 0 ⟨#[]⟩ (by omega) (by omega)
theorem wants_more {W : World} {B B' : Nat} {A : Option Addr} {l : List Int} {wk wu : Int → Int} (h : Wants W B A l wk wu) (hB : B ≤ B') : Wants W B' A l wk wu := fun h0 => by
  obtain ⟨g, hA, hg, hc⟩ := h h0
  exact ⟨g, hA, by omega, hc⟩
theorem own_form5 {w : World} {base n : Nat} {e : TypeId} {size : Nat} {v : Value} {xs : List Value} (h : w.ownsRow base e size v n xs) : ∃ A c, v = .slice A n c ∧ n ≤ c ∧ c ≤ maxLen := own_form h

end Go.Proofs.YtohainhkplombaaDoor
