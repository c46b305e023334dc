/- impl.taking over a Reader: a list of values that are read one by one. PRINTED by wip/genrf.py. -/
import Derived.Test.YtpfjmnaognlnkaaDoorRe
namespace Go.Proofs.YtpfjmnaognlnkaaDoor
open Go.RowKit
set_option linter.unusedVariables false

theorem own_formR {w : World} {base n : Nat} {e : TypeId} {size : Nat} {v : Value} {xs : List Value} (h : w.ownsRow base e size v n xs) : ∃ A c, v = .slice A n c ∧ n ≤ c ∧ c ≤ maxLen := by
  rcases h.2 with ⟨rfl, rfl⟩ | ⟨g, cap, cur, rfl, _, _, h1, h2, _⟩
  · exact ⟨none, 0, rfl, Nat.le_refl _, by simp [maxLen]⟩
  · exact ⟨_, cap, rfl, h1, h2⟩
/-- What 'taking' returns. -/
def Got (w : World) (vs : List Value) (e : Ending) (w' : World) : Prop :=
  ∃ A c, e = .returned (.tuple #[.slice A vs.length c, .bool true]) ∧ Reads w' w'.heap.size 1 A vs.length vs ∧ vs.length ≤ c ∧ c ≤ maxLen ∧ Below w.heap.size w w'
theorem own_blkR {w : World} {base n : Nat} {T : TypeId} {v : Value} {xs : List Value} (h : w.ownsRow base T 1 v n xs) : ∀ k, v.ownBlock = some k → base ≤ k ∧ ∃ cs, Blk w k T cs := by
  intro k hk
  have hne : v ≠ .slice none 0 0 := by rintro rfl; simp [Value.ownBlock] at hk
  obtain ⟨g, cs, hv, hb, hB, _, _, _⟩ := own_blk h (.inr hne)
  rw [hv] at hk
  simp [Value.ownBlock] at hk
  subst hk
  exact ⟨by omega, cs, hb⟩
/-- An owned row of another type is kept by a Reader's step. -/
theorem own_kt {w w' : World} {base n : Nat} {T : TypeId} {v : Value} {xs : List Value} (h : w.ownsRow base T 1 v n xs) (hk : KT w w') (h1 : T ≠ 115) (h2 : T ≠ 75) (h3 : T ≠ 5) : w'.ownsRow base T 1 v n xs := by
  by_cases hv : v = .slice none 0 0
  · subst hv
    rcases h.2 with ⟨a, b⟩ | ⟨g, cap, cur, hx, _⟩
    · exact ⟨h.1, .inl ⟨a, b⟩⟩
    · simp at hx
  · obtain ⟨g, cs, rfl, hb, hB, hn, hm, ht⟩ := own_blk h (.inr hv)
    subst ht
    exact blk_own (hk g T cs h1 h2 h3 hb) hB hn hm
/-- Each is read by its own form. -/
def Frms {α : Type} (F : α → List Int → Prop) : List α → List (List Int) → Prop
  | [], [] => True
  | x :: xs, e :: es => F x e ∧ Frms F xs es
  | _, _ => False
theorem Frms.at_ {α : Type} {F : α → List Int → Prop} {l : List α} {ds : List (List Int)} (h : Frms F l ds) (k : Nat) (hk : k < l.length) : ∃ e, (ds.drop k).flatten = e ++ (ds.drop (k + 1)).flatten ∧ F l[k] e := by
  induction l generalizing ds k with
  | nil => simp at hk
  | cons x xs ih =>
    cases ds with
    | nil => exact h.elim
    | cons e es =>
      obtain ⟨h1, h2⟩ := h
      cases k with
      | zero => exact ⟨e, by simp, h1⟩
      | succ k =>
        obtain ⟨e2, h3, h4⟩ := ih h2 k (by simpa using hk)
        exact ⟨e2, by simpa using h3, h4⟩
theorem Frms.len {α : Type} {F : α → List Int → Prop} {l : List α} {ds : List (List Int)} (h : Frms F l ds) : ds.length = l.length := by
  induction l generalizing ds with
  | nil => cases ds with
    | nil => rfl
    | cons e es => exact h.elim
  | cons x xs ih => cases ds with
    | nil => exact h.elim
    | cons e es => simp [ih h.2]
theorem Frms.snoc {α : Type} {F : α → List Int → Prop} {l : List α} {ds : List (List Int)} (h : Frms F l ds) {x : α} {e : List Int} (hx : F x e) : Frms F (l ++ [x]) (ds ++ [e]) := by
  induction l generalizing ds with
  | nil => cases ds with
    | nil => exact ⟨hx, trivial⟩
    | cons e es => exact h.elim
  | cons y ys ih => cases ds with
    | nil => exact h.elim
    | cons e es => exact ⟨h.1, ih h.2⟩
theorem Frms.bound {α : Type} {F : α → List Int → Prop} {l : List α} {ds : List (List Int)} (h : Frms F l ds) {m : Nat} (hm : ∀ x e, F x e → e.length ≤ m) : ds.flatten.length ≤ m * l.length := by
  induction l generalizing ds with
  | nil => cases ds with
    | nil => simp
    | cons e es => exact h.elim
  | cons y ys ih => cases ds with
    | nil => exact h.elim
    | cons e es =>
      have h1 := hm y e h.1
      have h2 := ih h.2
      simp only [List.flatten_cons, List.length_append, List.length_cons, Nat.mul_succ]
      omega
theorem take_snocG {α : Type} (l : List α) (V : α → Value) (k : Nat) (h : k < l.length) : (l.take (k + 1)).map V = (l.take k).map V ++ [V l[k]] := by
  rw [List.take_succ_eq_append_getElem h, List.map_append]; rfl
theorem grown_alloc {W W2 : World} {o : Obj} {row : Option Nat} (h : (W.alloc o).grownBy W2 row) : W.grownBy W2 row := (World.grownBy_alloc W o row).trans h
theorem KT.grown_far {w0 W W2 : World} (h : KT w0 W) {row : Option Nat} (hg : W.grownBy W2 row) (hr : ∀ r, row = some r → w0.heap.size ≤ r) : KT w0 W2 := fun k t cs x y z hk =>
  (h k t cs x y z hk).grown hg (fun e => by have := hr k e.symm; have := hk.lt; omega)
theorem reads_one1 (w : World) (v : Value) (t : TypeId) : Reads (w.alloc (.cells #[v] t)) (w.heap.size + 1) 1 (some ⟨w.heap.size, 0, none⟩) 1 [v] := by
  refine ⟨rfl, fun _ => ⟨_, rfl, by simp, fun j u hu => ?_⟩⟩
  rw [add_lit, Nat.zero_add]
  exact ((Blk.new w t [v]).cell j).trans hu
end Go.Proofs.YtpfjmnaognlnkaaDoor
