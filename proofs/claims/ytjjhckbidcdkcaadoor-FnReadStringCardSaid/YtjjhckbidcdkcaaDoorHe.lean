/- A region that draws its order and holds a literal of a map: its entries are laid in any order. By hand. -/
import Derived.Test.YtjjhckbidcdkcaaDoorMap
import Derived.Orders
import Derived.Lib.Hide
namespace Go.Proofs.YtjjhckbidcdkcaaDoor
open Go.RowKit Go.Maps
set_option linter.unusedVariables false

/-- How many operations have not come up yet. -/
def unl (l : Array Bool) : Nat := (l.toList.filter fun b => !b).length
theorem unl_list : ∀ (l : List Bool) (i : Nat), l[i]? = some false → ((l.set i true).filter fun b => !b).length + 1 = (l.filter fun b => !b).length
  | [], i, h => by simp at h
  | b :: r, 0, h => by
    obtain rfl : b = false := by simpa using h
    simp
  | b :: r, i + 1, h => by
    have ih := unl_list r i (by simpa using h)
    cases b <;> simp <;> omega
theorem unl_set (l : Array Bool) (i : Nat) (h : l.getD i true = false) : unl (l.setIfInBounds i true) + 1 = unl l := by
  unfold unl
  have h2 : l.toList[i]? = some false := by
    rw [Array.getElem?_toList]
    rcases Nat.lt_or_ge i l.size with hlt | hge
    · rw [Array.getElem?_eq_getElem hlt]
      simp [hlt] at h
      rw [h]
    · simp [Nat.not_lt.2 hge] at h
  rw [Array.toList_setIfInBounds]
  exact unl_list _ _ h2
/-- A region in whatever order: what holds of every state on the way, held at each operation that may come up. -/
theorem wpAny_inv {P : Program} {md : Region.Mode} {ops : Array Oper} {Q : Exit → Act → World → Prop} (I : Array Bool → Act → World → Prop)
    (hend : ∀ l a w, I l a w → Region.ready md ops l = [] → Q .normal a w)
    (hstep : ∀ l a w i, I l a w → i ∈ Region.ready md ops l → wpOp P ops Q i (fun a' w' => I (l.setIfInBounds i true) a' w') a w) :
    ∀ (fuel : Nat) (l : Array Bool) (a : Act) (w : World), I l a w → unl l ≤ fuel → wpAny P md ops Q fuel l a w
  | 0, l, a, w, h, hf => by
    have h0 : Region.ready md ops l = [] := by
      rw [List.eq_nil_iff_forall_not_mem]
      intro i hi
      have := unl_set l i (mem_ready.1 hi).1
      omega
    exact ⟨h0, hend l a w h h0⟩
  | fuel + 1, l, a, w, h, hf => by
    refine ⟨fun h0 => hend l a w h h0, fun i hi => ?_⟩
    refine wpOp_mono (fun a' w' h' => wpAny_inv I hend hstep fuel _ a' w' h' ?_) (hstep l a w i h hi)
    have := unl_set l i (mem_ready.1 hi).1
    omega

/-- The entries that are laid: each by the number of its operation. -/
def lit (P : List (Nat × Int × Int)) (l : Array Bool) : List (Int × Int) := (P.filter fun p => l.getD p.1 false).map (·.2)
theorem lit_cons (q : Nat × Int × Int) (r : List (Nat × Int × Int)) (l : Array Bool) : lit (q :: r) l = if l.getD q.1 false = true then q.2 :: lit r l else lit r l := by
  unfold lit
  rw [List.filter_cons]
  split <;> rfl
theorem lit_far (l : Array Bool) (j : Nat) : ∀ P : List (Nat × Int × Int), (∀ p ∈ P, p.1 ≠ j) → lit P (l.setIfInBounds j true) = lit P l
  | [], _ => rfl
  | q :: r, h => by
    rw [lit_cons, lit_cons, lit_far l j r (fun p hp => h p (List.mem_cons_of_mem _ hp)), getD_set_ne false (Ne.symm (h q (List.mem_cons_self ..)))]
theorem lit_set (l : Array Bool) (j : Nat) (kc : Int × Int) (hl : l.getD j true = false) : ∀ P : List (Nat × Int × Int), (P.map (·.1)).Nodup → (j, kc) ∈ P → (kc :: lit P l).Perm (lit P (l.setIfInBounds j true))
  | [], _, hm => by cases hm
  | q :: r, hn, hm => by
    have hlt : j < l.size := by
      rcases Nat.lt_or_ge j l.size with hlt | hge
      · exact hlt
      · simp [Nat.not_lt.2 hge] at hl
    rw [List.map_cons, List.nodup_cons] at hn
    rw [lit_cons, lit_cons]
    by_cases e : q.1 = j
    · have hq : q = (j, kc) := by
        rcases List.mem_cons.1 hm with h | h
        · exact h.symm
        · exact absurd (List.mem_map_of_mem (f := (·.1)) h) (by rw [← e]; exact hn.1)
      subst hq
      have h1 : l.getD j false = false := by simpa [hlt] using hl
      have h2 : (l.setIfInBounds j true).getD j false = true := by simp [hlt]
      rw [h1, h2, lit_far l j r (fun p hp h => hn.1 (by
        show j ∈ r.map (·.1)
        rw [← h]; exact List.mem_map_of_mem (f := (·.1)) hp))]
      simp
    · have hm2 : (j, kc) ∈ r := by
        rcases List.mem_cons.1 hm with h | h
        · exact absurd (by rw [← h]) e
        · exact h
      have ih := lit_set l j kc hl r hn.2 hm2
      rw [getD_set_ne false (Ne.symm e)]
      split
      · exact (List.Perm.swap q.2 kc (lit r l)).trans (ih.cons q.2)
      · exact ih
theorem look_cons (p : Int × Int) (r : List (Int × Int)) (k : Int) : look (p :: r) k = if p.1 = k then p.2 else look r k := rfl
theorem look_perm {L L' : List (Int × Int)} (h : L.Perm L') (k : Int) : (L.map (·.1)).Nodup → look L k = look L' k := by
  induction h with
  | nil => intro _; rfl
  | cons x h ih =>
    intro hn
    rw [List.map_cons, List.nodup_cons] at hn
    rw [look_cons, look_cons, ih hn.2]
  | swap x y l =>
    intro hn
    simp only [List.map_cons, List.nodup_cons, List.mem_cons, not_or] at hn
    rw [look_cons, look_cons, look_cons, look_cons]
    by_cases h1 : y.1 = k
    · have h2 : x.1 ≠ k := fun e => hn.1.1 (h1.trans e.symm)
      rw [if_pos h1, if_neg h2, if_pos h1]
    · rw [if_neg h1, if_neg h1]
  | trans h1 h2 ih1 ih2 =>
    intro hn
    rw [ih1 hn, ih2 ((h1.map (·.1)).nodup_iff.1 hn)]
end Go.Proofs.YtjjhckbidcdkcaaDoor
