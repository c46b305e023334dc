/- Sets as maps keyed by whole numbers: what is in them, what a range over one collects, and that it sorts to the set. PRINTED by wip/gensb.py. -/
import Derived.Test.YtikpmeedjdddoaaDoorSa
import Derived.Test.YtikpmeedjdddoaaDoorProg
import Derived.Maps.Own
import Derived.Maps.OwnOps
import Derived.Maps.OwnSet
import Derived.Maps.Views
import Derived.Maps.RangeWalk
import Derived.Sort.KeysCollected
import Derived.Sort.OwnSorted
import Derived.Shelf.SlSortCmp.NoneTotal
namespace Go.Proofs.YtikpmeedjdddoaaDoor
open Go.RowKit Go.Maps Go.Sort Go.ChangeShapes Go.WideShapes
set_option linter.unusedVariables false

/-- Block b of w is a set that holds what is on a list. -/
def SetM (q : IntKind) (K : TypeId) (w : World) (b n : Nat) (l : List Int) : Prop :=
  ∃ D : DataW Unit, w.ownsMap Tryd.prog K (unitElem (H := Unit)) b n D ∧ ∀ x, has D (.int q x) = decide (x ∈ l)
theorem sameKey_int (q : IntKind) (x y : Int) : (Lit.int q x).sameKey (.int q y) = decide (x = y) := by
  by_cases h : x = y
  · subst h; simp [Lit.sameKey]
  · simp [Lit.sameKey, h]
theorem SetM.made (q : IntKind) (K : TypeId) (w : World) : SetM q K (w.alloc (.map #[] 0)) w.heap.size 0 [] :=
  ⟨_, World.ownsMap_made _ _ _ _, fun x => by simp [has]⟩
theorem has_put_int {D : DataW Unit} (hD : IsMap D) {q : IntKind} {l : List Int} (h : ∀ x, has D (.int q x) = decide (x ∈ l)) (v : Int) (d : DataW Unit) (x : Int) : has (D.put (.int q v) d) (.int q x) = decide (x ∈ l ++ [v]) := by
  by_cases e : x = v
  · subst e
    rw [has_put_same hD (show WideAt.IsKeyLit (.int q x) from trivial)]
    simp
  · rw [has_put_other (fun hh => e (by injection hh)), h x]
    simp [e]
/-- What a range has met: nothing twice; a key is on the list just where the set has it and it is no longer to come. -/
def CollI (q : IntKind) (D0 : DataW Unit) (left : Lit → Bool) (ks : List Int) : Prop := ks.Nodup ∧ ∀ x, x ∈ ks ↔ (has D0 (.int q x) = true ∧ left (.int q x) = false)
theorem CollI.start (q : IntKind) (D0 : DataW Unit) : CollI q D0 (has D0) [] := ⟨List.nodup_nil, fun x => by cases has D0 (.int q x) <;> simp⟩
theorem CollI.step {q : IntKind} {D0 : DataW Unit} {left : Lit → Bool} {ks : List Int} (h : CollI q D0 left ks) {x : Int} {y : DataW Unit} (hlk : left (.int q x) = true) (hat : ∀ zd, D0.atKey (.int q x) zd = y) : CollI q D0 (fun z => left z && !z.sameKey (.int q x)) (ks ++ [x]) := by
  have hhas : has D0 (.int q x) = true := has_true_of_atKey hat
  have hnx : x ∉ ks := fun hx => by have := ((h.2 x).1 hx).2; rw [hlk] at this; cases this
  refine ⟨?_, fun z => ?_⟩
  · refine List.nodup_append.2 ⟨h.1, by simp, ?_⟩
    intro a ha b hb
    rw [List.mem_singleton] at hb
    subst hb
    exact fun e => hnx (e ▸ ha)
  · rw [List.mem_append, List.mem_singleton, h.2 z]
    show _ ↔ (_ ∧ (left (.int q z) && !(Lit.int q z).sameKey (.int q x)) = false)
    rw [sameKey_int]
    by_cases e : z = x
    · subst e
      simp [hhas]
    · simp [e]
theorem CollI.end_ {q : IntKind} {D0 : DataW Unit} {left : Lit → Bool} {ks l : List Int} (h : CollI q D0 left ks) (hl : ∀ kl, left kl = false) (hD : ∀ x, has D0 (.int q x) = decide (x ∈ l)) : ks.Nodup ∧ ∀ x, x ∈ ks ↔ x ∈ l :=
  ⟨h.1, fun x => by rw [h.2 x, hD x, hl]; simp⟩
/-- The comparison of the sets: smaller first. -/
def cfI (x y : Int) : Int := if x < y then -1 else 1
theorem ltI (x y : Int) : ltOf cfI x y = decide (x < y) := by
  unfold ltOf cfI
  by_cases h : x < y <;> simp [h]
theorem swoI : Sort.SWO (ltOf cfI) where
  irrefl x := by rw [ltI]; simp
  trans x y z h1 h2 := by rw [ltI] at *; simp at *; omega
  ntrans x y z h1 h2 := by rw [ltI] at *; simp at *; omega
theorem totI (x y : Int) (h1 : ltOf cfI x y = false) (h2 : ltOf cfI y x = false) : x = y := by rw [ltI] at *; simp at *; omega
theorem leI : (fun x y : Int => !ltOf cfI y x) = fun x y => decide (x ≤ y) := by
  funext x y
  rw [ltI]
  by_cases h : x ≤ y
  · simp [h, show ¬ y < x by omega]
  · simp [h, show y < x by omega]
theorem setOf_sorted {l ks : List Int} (hn : ks.Nodup) (hm : ∀ x, x ∈ ks ↔ x ∈ l) (hl : ks.length ≤ l.length) : SetOf l (ks.mergeSort fun x y => decide (x ≤ y)) := by
  have hp := List.mergeSort_perm ks (fun x y => decide (x ≤ y))
  have hs : (ks.mergeSort fun x y => decide (x ≤ y)).Pairwise (fun a b => decide (a ≤ b) = true) :=
    List.pairwise_mergeSort (fun a b c h1 h2 => by simp only [decide_eq_true_eq] at *; omega) (fun a b => by simp only [Bool.or_eq_true, decide_eq_true_eq]; omega) ks
  exact SetOf.of_sorted (hs.imp fun {a b} h => by simpa using h) (hp.nodup_iff.2 hn) (fun y => hp.mem_iff.trans (hm y)) (by rw [hp.length_eq]; exact hl)
section
variable {enc : Int → Value}
theorem holds_blockI {w : World} {g : Nat} {cur : Array Value} {e : TypeId} {ss : List Int} (hb : w.heap[g]? = some (.cells cur e (0, 0))) (ht : cur.toList.take ss.length = ss.map enc) : Holds enc w g 0 ss.toArray := by
  intro j hj
  have hj' : j < ss.length := by simpa using hj
  refine ⟨?_, by simp [World.frozen?, hb]⟩
  have h1 : (cur.toList.take ss.length)[j]? = (ss.map enc)[j]? := by rw [ht]
  rw [List.getElem?_take_of_lt hj'] at h1
  simp only [World.cell?, hb, Nat.zero_add]
  simp only [Option.isSome_none, Bool.false_eq_true, if_false]
  rw [← Array.getElem?_toList, h1]
  simp [hj']
theorem heap_sortedI {w : World} {g n : Nat} {os : Array Obj} {cur : Array Value} {e : TypeId} {fr : Nat × Nat} (d : Array Int) (hb : w.heap[g]? = some (.cells cur e fr)) :
    (grow (putRow enc (Sort.ahead w n) g 0 d) os).heap[g]? = some (.cells (putCells enc 0 d cur) e fr) := by
  have hg : g < w.heap.size := (Array.getElem?_eq_some_iff.1 hb).1
  rw [heap_grow_old _ _ (by simpa using hg)]
  simp [putRow, mapBlock, Sort.ahead, Array.getElem?_modify, hb, onCells]
theorem grown_sortedI {w : World} {g n : Nat} {os : Array Obj} (d : Array Int) : w.grownBy (grow (putRow enc (Sort.ahead w n) g 0 d) os) (some g) := by
  refine ⟨rfl, rfl, rfl, by simp, fun k hk hne => ?_⟩
  rw [heap_grow_old _ _ (by simpa using hk)]
  have : g ≠ k := fun e => hne (by rw [e])
  simp [putRow, mapBlock, Sort.ahead, Array.getElem?_modify, this]
theorem take_putI (cur : Array Value) (ts : List Int) (h : ts.length ≤ cur.size) : (putCells enc 0 ts.toArray cur).toList.take ts.length = ts.map enc := by
  apply List.ext_getElem?
  intro j
  by_cases hj : j < ts.length
  · rw [List.getElem?_take_of_lt hj, Array.getElem?_toList]
    simp [putCells, hj, show j < cur.size by omega]
  · rw [List.getElem?_take_eq_none (by omega), List.getElem?_eq_none (by simp; omega)]
theorem own_sortedI {w : World} {base g cap n : Nat} {e : TypeId} {os : Array Obj} {cur : Array Value} {ss ts : List Int} (hl : ts.length = ss.length) (hbase : base ≤ g) (hb : w.heap[g]? = some (.cells cur e (0, 0)))
    (h1 : ss.length ≤ cap) (h2 : cap ≤ maxLen) (h3 : cur.size = cap * 1) :
    (grow (putRow enc (Sort.ahead w n) g 0 ts.toArray) os).ownsRow base e 1 (.slice (some ⟨g, 0, none⟩) ss.length cap) ss.length (ts.map enc) :=
  ⟨by simp [hl], .inr ⟨g, cap, _, rfl, hbase, heap_sortedI _ hb, h1, h2, by simp [putCells, h3], by rw [Nat.mul_one, ← hl]; exact take_putI cur ts (by omega)⟩⟩
end
end Go.Proofs.YtikpmeedjdddoaaDoor
