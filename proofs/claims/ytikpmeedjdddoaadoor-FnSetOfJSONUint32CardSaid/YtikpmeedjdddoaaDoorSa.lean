/- Sets of whole numbers as lists: each once, by their order. By hand. -/
import Derived.Test.YtikpmeedjdddoaaDoorKa
namespace Go.Proofs.YtikpmeedjdddoaaDoor
set_option linter.unusedVariables false

/-- The values of a list, each once, by their order. -/
def SetOf (l out : List Int) : Prop := out.Pairwise (· < ·) ∧ (∀ y, y ∈ out ↔ y ∈ l) ∧ out.length ≤ l.length
theorem SetOf.nil : SetOf [] [] := ⟨List.Pairwise.nil, fun _ => Iff.rfl, Nat.le_refl _⟩
theorem strict_eq : ∀ (a b : List Int), a.Pairwise (· < ·) → b.Pairwise (· < ·) → (∀ y, y ∈ a ↔ y ∈ b) → a = b
  | [], [], _, _, _ => rfl
  | [], y :: b, _, _, h => absurd ((h y).2 (List.mem_cons_self ..)) (by simp)
  | x :: a, [], _, _, h => absurd ((h x).1 (List.mem_cons_self ..)) (by simp)
  | x :: a, y :: b, ha, hb, h => by
    obtain ⟨ha1, ha2⟩ := List.pairwise_cons.1 ha
    obtain ⟨hb1, hb2⟩ := List.pairwise_cons.1 hb
    have hxy : x = y := by
      have h1 := (h x).1 (List.mem_cons_self ..)
      have h2 := (h y).2 (List.mem_cons_self ..)
      rcases List.mem_cons.1 h1 with e | h1
      · exact e
      · rcases List.mem_cons.1 h2 with e | h2
        · exact e.symm
        · have := hb1 x h1
          have := ha1 y h2
          omega
    subst hxy
    have hr : ∀ z, z ∈ a ↔ z ∈ b := fun z => by
      constructor
      · intro hz
        have hlt := ha1 z hz
        rcases List.mem_cons.1 ((h z).1 (List.mem_cons_of_mem _ hz)) with e | hz'
        · omega
        · exact hz'
      · intro hz
        have hlt := hb1 z hz
        rcases List.mem_cons.1 ((h z).2 (List.mem_cons_of_mem _ hz)) with e | hz'
        · omega
        · exact hz'
    rw [strict_eq a b ha2 hb2 hr]
theorem SetOf.unique {l a b : List Int} (ha : SetOf l a) (hb : SetOf l b) : a = b :=
  strict_eq a b ha.1 hb.1 fun y => (ha.2.1 y).trans (hb.2.1 y).symm
/-- What is sorted and has nothing twice. -/
theorem SetOf.of_sorted {l ks : List Int} (hs : ks.Pairwise (· ≤ ·)) (hn : ks.Nodup) (hm : ∀ y, y ∈ ks ↔ y ∈ l) (hl : ks.length ≤ l.length) : SetOf l ks :=
  ⟨(hs.and hn).imp fun {a b} ⟨h1, h2⟩ => by omega, hm, hl⟩
theorem SetOf.snoc_old {l out : List Int} {x : Int} (h : SetOf l out) (hx : x ∈ out) : SetOf (l ++ [x]) out := by
  refine ⟨h.1, fun y => ?_, by rw [List.length_append]; have := h.2.2; omega⟩
  rw [List.mem_append, List.mem_singleton, ← h.2.1 y]
  exact ⟨.inl, fun hy => hy.elim id fun e => e ▸ hx⟩
theorem SetOf.snoc_new {l out : List Int} {x : Int} {m : Nat} (h : SetOf l out) (hm : m ≤ out.length) (hlo : ∀ y ∈ out.take m, y < x) (hhi : ∀ y ∈ out.drop m, x < y) : SetOf (l ++ [x]) (out.take m ++ x :: out.drop m) := by
  have hp : (out.take m ++ out.drop m).Pairwise (· < ·) := by rw [List.take_append_drop]; exact h.1
  obtain ⟨p1, p2, p3⟩ := List.pairwise_append.1 hp
  refine ⟨List.pairwise_append.2 ⟨p1, List.pairwise_cons.2 ⟨hhi, p2⟩, fun a ha b hb => ?_⟩, fun y => ?_, ?_⟩
  · rcases List.mem_cons.1 hb with rfl | hb
    · exact hlo a ha
    · exact p3 a ha b hb
  · have h1 : y ∈ out ↔ y ∈ out.take m ∨ y ∈ out.drop m := by
      rw [← List.mem_append, List.take_append_drop]
    rw [List.mem_append, List.mem_cons, List.mem_append, List.mem_singleton, ← h.2.1 y, h1]
    constructor
    · rintro (h | h | h)
      · exact .inl (.inl h)
      · exact .inr h
      · exact .inl (.inr h)
    · rintro ((h | h) | h)
      · exact .inl h
      · exact .inr (.inr h)
      · exact .inr (.inl h)
  · have := h.2.2
    simp only [List.length_append, List.length_cons, List.length_take, List.length_drop, List.length_nil]
    omega
/-- In a list by its order: what stands ahead of a place is smaller, what stands from there on is not. -/
theorem SetOf.part {l out : List Int} (h : SetOf l out) {x : Int} {m : Nat} (hm : m ≤ out.length) (hlo : ∀ j (hj : j < out.length), j < m → out[j] < x) (hhi : ∀ (hj : m < out.length), x ≤ out[m]) :
    (∀ y ∈ out.take m, y < x) ∧ (∀ y ∈ out.drop m, x ≤ y) ∧ (∀ (hj : m < out.length), out[m] ≠ x → ∀ y ∈ out.drop m, x < y) := by
  have hp := List.pairwise_iff_getElem.1 h.1
  refine ⟨fun y hy => ?_, fun y hy => ?_, fun hj hne y hy => ?_⟩
  · obtain ⟨j, hj, rfl⟩ := List.mem_iff_getElem.1 hy
    rw [List.getElem_take]
    exact hlo j (by rw [List.length_take] at hj; omega) (by rw [List.length_take] at hj; omega)
  · obtain ⟨j, hj, rfl⟩ := List.mem_iff_getElem.1 hy
    rw [List.length_drop] at hj
    rw [List.getElem_drop]
    have h0 := hhi (by omega)
    by_cases e : j = 0
    · subst e
      simpa using h0
    · have := hp m (m + j) (by omega) (by omega) (by omega)
      omega
  · obtain ⟨j, hj', rfl⟩ := List.mem_iff_getElem.1 hy
    rw [List.length_drop] at hj'
    rw [List.getElem_drop]
    have h0 := hhi hj
    by_cases e : j = 0
    · subst e
      simp only [Nat.add_zero]
      omega
    · have := hp m (m + j) (by omega) (by omega) (by omega)
      omega
end Go.Proofs.YtikpmeedjdddoaaDoor
