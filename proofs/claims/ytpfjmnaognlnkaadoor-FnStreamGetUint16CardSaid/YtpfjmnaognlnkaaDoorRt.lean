/- Parts of the laws StreamGet..: buffers, bit, sameItems, a list of values that the call made. PRINTED by wip/genru.py. -/
import Derived.Test.YtpfjmnaognlnkaaDoorRs
import Derived.Deep.QuietTactic
import Derived.BigQuiet
namespace Go.Proofs.YtpfjmnaognlnkaaDoor
open Go.RowKit
set_option linter.unusedVariables false

theorem infoPackA : (Tryd.prog.info? 31).map (fun i => (i.zero, i.size, i.bytes)) = some (some (.agg #[.int .i64 0, .int .u64 0, .string ⟨#[]⟩, .int .i64 0, .slice none 0 0]), 5, 64) := by kernel_rfl
theorem c5A_length (k u : Int) : (c5A k u).length = 5 := rfl
theorem c5A_one (k u : Int) : ∀ v ∈ c5A k u, v.oneCell' = true := by
  intro v hv
  simp only [c5A, List.mem_cons, List.not_mem_nil, or_false] at hv
  rcases hv with rfl | rfl | rfl | rfl | rfl <;> rfl
theorem reads_fiveA (w : World) (k u : Int) (t : TypeId) : Reads (w.alloc (.cells #[.int .i64 k, .int .u64 u, .string ⟨#[]⟩, .int .i64 0, .slice none 0 0] t)) (w.heap.size + 1) 5 (some ⟨w.heap.size, 0, none⟩) 1 (c5A k u) := by
  refine ⟨rfl, fun _ => ⟨_, rfl, by simp, fun j v hv => ?_⟩⟩
  rw [add_lit, Nat.zero_add]
  exact ((Blk.new w t (c5A k u)).cell j).trans hv
theorem flat5A_length {α : Type} (l : List α) (g : α → List Value) (hg : ∀ x, (g x).length = 5) : (l.flatMap g).length = l.length * 5 := by
  induction l with
  | nil => rfl
  | cons x xs ih => rw [List.flatMap_cons, List.length_append, hg, ih, List.length_cons]; omega
theorem flat5A_at {α : Type} (l : List α) (g : α → List Value) (hg : ∀ x, (g x).length = 5) : ∀ (k : Nat) (hk : k < l.length), ∀ j, j < 5 → (l.flatMap g)[k * 5 + j]? = (g l[k])[j]? := by
  induction l with
  | nil => intro k hk; simp at hk
  | cons x xs ih =>
    intro k hk j hj
    rw [List.flatMap_cons]
    cases k with
    | zero => rw [List.getElem?_append_left (by rw [hg]; omega)]; simp
    | succ k =>
      rw [List.getElem?_append_right (by rw [hg]; omega), hg]
      have := ih k (by simpa using hk) j hj
      rw [show (k + 1) * 5 + j - 5 = k * 5 + j by omega, this]
      simp
theorem wantsA_own {α : Type} {w : World} {B c : Nat} {A : Option Addr} {l : List α} {wk wu : α → Int} (h : w.ownsRow B 31 5 (.slice A l.length c) l.length (l.flatMap fun x => c5A (wk x) (wu x))) : WantsA w w.heap.size A l wk wu := fun h0 => by
  obtain ⟨g, cap, hv, _, hlt⟩ := h.form h0
  have hA : A = some ⟨g, 0, none⟩ := by injection hv
  subst hA
  refine ⟨g, rfl, hlt, fun k hk j u hu => ?_⟩
  have hj : j < 5 := by
    rcases Nat.lt_or_ge j 5 with h | h
    · exact h
    · rw [List.getElem?_eq_none (by rw [c5A_length]; exact h)] at hu; cases hu
  have := h.cells (g := g) rfl (k * 5 + j) u (by rw [flat5A_at l _ (fun _ => rfl) k hk j hj]; exact hu)
  rwa [add_lit, Nat.zero_add] at this
theorem wantsA_one {α : Type} (w : World) (x : α) (wk wu : α → Int) : WantsA (w.alloc (.cells #[.int .i64 (wk x), .int .u64 (wu x), .string ⟨#[]⟩, .int .i64 0, .slice none 0 0] 31)) (w.heap.size + 1) (some ⟨w.heap.size, 0, none⟩) [x] wk wu := fun _ => by
  refine ⟨_, rfl, by omega, fun k hk j u hu => ?_⟩
  obtain rfl : k = 0 := by simpa using hk
  rw [Nat.zero_mul, Nat.zero_add]
  exact ((Blk.new w _ (c5A (wk x) (wu x))).cell j).trans hu

theorem bufs_yes (w : World) (b ch : Int) (h0 : 18 ≤ b) (h1 : b ≤ 65536) (h2 : 1 ≤ ch) (h3 : ch ≤ 65536) : Calls Tryd.prog 7 #[.int .i64 b, .int .i64 ch] w fun e w' => e = .returned (.bool true) ∧ w = w' := by
  go_enter Tryd.func7, Tryd.ntmps7
  go_wp2
  go_ret
  exact ⟨rfl, rfl⟩
theorem bufs_no (w : World) (b ch : Int) (h : b < 18 ∨ 65536 < b ∨ ch < 1 ∨ 65536 < ch) : Calls Tryd.prog 7 #[.int .i64 b, .int .i64 ch] w fun e w' => e = .returned (.bool false) ∧ w = w' := by
  have hs : b < 18 ∨ (18 ≤ b ∧ 65536 < b) ∨ (18 ≤ b ∧ b ≤ 65536 ∧ ch < 1) ∨ (18 ≤ b ∧ b ≤ 65536 ∧ 1 ≤ ch ∧ 65536 < ch) := by omega
  clear h
  rcases hs with h | ⟨h1, h⟩ | ⟨h1, h2, h⟩ | ⟨h1, h2, h3, h⟩
  all_goals
    go_enter Tryd.func7, Tryd.ntmps7
    go_wp2
    go_ret
    first
      | exact ⟨rfl, rfl⟩
      | exact ⟨by simp [show ¬ ch ≤ 65536 by omega], rfl⟩


end Go.Proofs.YtpfjmnaognlnkaaDoor
