/- A region that draws its order: a front of operations in whatever order, each told by what it leaves; then a tail in one order. By hand. · A literal of a map in a region that draws: what is known on the way. By hand. -/
import Derived.StillTail
import Derived.Test.YtjjhckbidcdkcaaDoorHg
import Derived.Test.YtjjhckbidcdkcaaDoorIc
namespace Go.Proofs.YtjjhckbidcdkcaaDoor
open Go.RowKit Go.Maps
set_option linter.unusedVariables false

/-- How many of the first n have not come up. -/
def unH (l : Array Bool) : Nat → Nat
  | 0 => 0
  | n + 1 => unH l n + (if l.getD n true = false then 1 else 0)
theorem unH_far (l : Array Bool) (i : Nat) : ∀ n, n ≤ i → unH (l.setIfInBounds i true) n = unH l n
  | 0, _ => rfl
  | n + 1, h => by
    unfold unH
    rw [unH_far l i n (by omega), getD_set_ne true (by omega)]
theorem unH_set (l : Array Bool) (i : Nat) (h : l.getD i true = false) : ∀ n, i < n → unH (l.setIfInBounds i true) n + 1 = unH l n
  | n + 1, hi => by
    unfold unH
    by_cases e : i = n
    · subst e
      rw [unH_far l i i (Nat.le_refl _), if_pos h]
      have h2 : (l.setIfInBounds i true).getD i true = true := by
        rcases Nat.lt_or_ge i l.size with hlt | hge
        · simp [hlt]
        · simp [Nat.not_lt.2 hge]
      rw [h2]
      simp
    · rw [getD_set_ne true e]
      have := unH_set l i h n (by omega)
      omega
theorem unH_zero (l : Array Bool) : ∀ n, unH l n = 0 → ∀ i, i < n → l.getD i true = true
  | n + 1, h, i, hi => by
    unfold unH at h
    by_cases e : i = n
    · subst e
      cases hb : l.getD i true with
      | true => rfl
      | false => rw [hb] at h; simp at h
    · exact unH_zero l n (by omega) i (by omega)
theorem unH_rep (m : Nat) : ∀ n, n ≤ m → unH (Array.replicate m false) n = n
  | 0, _ => rfl
  | n + 1, h => by
    unfold unH
    rw [unH_rep m n (by omega)]
    have : (Array.replicate m false).getD n true = false := by simp [show n < m by omega]
    rw [this]
    simp
/-- What each of the first n waits for stands ahead of it. -/
def depsB (ops : Array Oper) (n : Nat) : Bool := (List.range n).all fun i => match ops[i]? with
  | some o => o.after.all fun e => !Region.binds .any e || decide (e.on < i)
  | none => false
/-- The first n write to slots of their own, within the frame. -/
def dstB (ops : Array Oper) (n m : Nat) : Bool := (List.range n).all fun i => match (ops[i]?).bind (·.dst) with
  | some s => decide (s < m) && (List.range n).all fun j => decide (j = i) || decide ((ops[j]?).bind (·.dst) ≠ some s)
  | none => true
theorem least_false (l : Array Bool) : ∀ n i, i < n → l.getD i true = false → ∃ j, j < n ∧ l.getD j true = false ∧ ∀ k, k < j → l.getD k true = true
  | n + 1, i, hi, h => by
    by_cases e : ∃ k, k < n ∧ l.getD k true = false
    · obtain ⟨k, hk, hk2⟩ := e
      obtain ⟨j, hj, h1, h2⟩ := least_false l n k hk hk2
      exact ⟨j, by omega, h1, h2⟩
    · have hin : i = n := by
        rcases Nat.lt_or_ge i n with h3 | h3
        · exact absurd ⟨i, h3, h⟩ e
        · omega
      subst hin
      refine ⟨i, hi, h, fun k hk => ?_⟩
      cases hb : l.getD k true with
      | true => rfl
      | false => exact absurd ⟨k, hk, hb⟩ e
theorem getD_tfG {l : Array Bool} {i : Nat} (hi : i < l.size) (h : l.getD i true = true) : l.getD i false = true := by
  simp [hi] at h ⊢
  exact h
section
variable {P : Program} {ops : Array Oper} {Q : Exit → Act → World → Prop}
theorem ready_some {n : Nat} {l : Array Bool} (hd : depsB ops n = true) (inv : HeadInv .any ops n l) (hn : n < ops.size) {i : Nat} (hi : i < n) (h : l.getD i true = false) : Region.ready .any ops l ≠ [] := by
  obtain ⟨j, hj, h1, h2⟩ := least_false l n i hi h
  have h3 := List.all_eq_true.1 hd j (List.mem_range.2 hj)
  cases ho : ops[j]? with
  | none => rw [ho] at h3; cases h3
  | some o =>
    rw [ho] at h3
    have hm : j ∈ Region.ready .any ops l := by
      refine mem_ready.2 ⟨h1, o, ho, fun e he hb => ?_⟩
      have h4 := Array.all_eq_true'.1 h3 e he
      rw [hb] at h4
      simp at h4
      exact getD_tfG (by rw [inv.size]; omega) (h2 _ h4)
    intro h5
    rw [h5] at hm
    cases hm
theorem wpAny_front {n : Nat} (I : Array Bool → Act → World → Prop) (hs : Region.sinkB .any ops n = true) (hc : Region.chainB .any ops n = true) (hd : depsB ops n = true) (hn : n < ops.size)
    (hstep : ∀ l a w i, HeadInv .any ops n l → I l a w → i ∈ Region.ready .any ops l → i < n → wpOp P ops Q i (fun a' w' => I (l.setIfInBounds i true) a' w') a w)
    (htail : ∀ l a w, HeadInv .any ops n l → (∀ i, i < n → l.getD i true = true) → I l a w → wpAny P .any ops Q (ops.size - n) l a w) :
    ∀ (f : Nat) (l : Array Bool) (a : Act) (w : World), HeadInv .any ops n l → I l a w → unH l n = f → wpAny P .any ops Q (f + (ops.size - n)) l a w
  | 0, l, a, w, inv, h, hf => by
    rw [Nat.zero_add]
    exact htail l a w inv (unH_zero l n hf) h
  | f + 1, l, a, w, inv, h, hf => by
    rw [show f + 1 + (ops.size - n) = (f + (ops.size - n)) + 1 by omega]
    have hex : ∃ i, i < n ∧ l.getD i true = false := by
      by_cases e : ∃ i, i < n ∧ l.getD i true = false
      · exact e
      · exfalso
        have h0 : ∀ m, m ≤ n → unH l m = 0 := fun m => by
          induction m with
          | zero => intro _; rfl
          | succ m ih =>
            intro hm
            unfold unH
            rw [ih (by omega)]
            cases hb : l.getD m true with
            | true => simp
            | false => exact absurd ⟨m, by omega, hb⟩ e
        rw [h0 n (Nat.le_refl _)] at hf
        cases hf
    obtain ⟨i0, hi0, hun0⟩ := hex
    refine ⟨fun h0 => absurd h0 (ready_some hd inv hn hi0 hun0), fun i hi => ?_⟩
    have hin : i < n := by
      rcases Nat.lt_or_ge i n with h1 | h1
      · exact h1
      · exact absurd hi (tail_waits hs hc hn inv _ i0 rfl hi0 hun0 i h1)
    refine wpOp_mono (fun a' w' h' => wpAny_front I hs hc hd hn hstep htail f _ a' w' (inv.set hi hin) h' ?_) (hstep l a w i inv h hi hin)
    have := unH_set l i (mem_ready.1 hi).1 n hin
    omega
end
/-- What is known on the way: what each operation that is done has left; the rest as it was. -/
structure Front (ops : Array Oper) (n : Nat) (G : Nat → Value → World → Prop) (R : Array Bool → (Nat → Value) → World → Prop) (a0 : Act) (l : Array Bool) (v : Nat → Value) (a : Act) (w : World) : Prop where
  size : a.tmps.size = a0.tmps.size
  defers : a.defers = a0.defers
  done : ∀ i s, i < n → l.getD i false = true → (ops[i]?).bind (·.dst) = some s → a.tmps.getD s undef = v i
  old : ∀ s, (∀ i, i < n → l.getD i false = true → (ops[i]?).bind (·.dst) ≠ some s) → a.tmps.getD s undef = a0.tmps.getD s undef
  told : ∀ i, i < n → l.getD i false = true → G i (v i) w
  res : R l v w
def upd (v : Nat → Value) (i : Nat) (x : Value) : Nat → Value := fun j => if j = i then x else v j
/-- The frame with what the operations have left. -/
def puts (a : Act) (v : Nat → Value) : Nat → List (Option Tmp) → Act
  | _, [] => a
  | k, d :: ds => puts (a.put d (v k)) v (k + 1) ds
theorem put_size (a : Act) (d : Option Tmp) (x : Value) : (a.put d x).tmps.size = a.tmps.size := by
  cases d <;> simp [Act.put]
theorem put_defers (a : Act) (d : Option Tmp) (x : Value) : (a.put d x).defers = a.defers := by
  cases d <;> rfl
theorem put_other (a : Act) (d : Option Tmp) (x : Value) (s : Nat) (h : d ≠ some s) : (a.put d x).tmps.getD s undef = a.tmps.getD s undef := by
  cases d with
  | none => rfl
  | some d =>
    have hne : d ≠ s := fun e => h (by rw [e])
    simp [Act.put, hne]
theorem put_same (a : Act) (x : Value) (s : Nat) (h : s < a.tmps.size) : (a.put (some s) x).tmps.getD s undef = x := by
  simp [Act.put, h]
theorem puts_spec (v : Nat → Value) : ∀ (ds : List (Option Tmp)) (k : Nat) (a : Act),
    (puts a v k ds).tmps.size = a.tmps.size ∧ (puts a v k ds).defers = a.defers ∧
    (∀ s, (∀ j : Nat, ds[j]? ≠ some (some s)) → (puts a v k ds).tmps.getD s undef = a.tmps.getD s undef) ∧
    (∀ j s : Nat, ds[j]? = some (some s) → s < a.tmps.size → (∀ j' : Nat, j' ≠ j → ds[j']? ≠ some (some s)) → (puts a v k ds).tmps.getD s undef = v (k + j))
  | [], k, a => ⟨rfl, rfl, fun _ _ => rfl, fun j s h => by simp at h⟩
  | d :: ds, k, a => by
    obtain ⟨i1, i2, i3, i4⟩ := puts_spec v ds (k + 1) (a.put d (v k))
    unfold puts
    refine ⟨i1.trans (put_size _ _ _), i2.trans (put_defers _ _ _), fun s hs => ?_, fun j s hj hsz hu => ?_⟩
    · rw [i3 s (fun j => by simpa using hs (j + 1))]
      exact put_other _ _ _ _ (fun e => hs 0 (by rw [e]; rfl))
    · cases j with
      | zero =>
        have hd : d = some s := by simpa using hj
        subst hd
        rw [i3 s (fun j' => by simpa using hu (j' + 1) (by omega)), put_same _ _ _ hsz]
        rfl
      | succ j =>
        rw [i4 j s (by simpa using hj) (by rw [put_size]; exact hsz) (fun j' hj' => by simpa using hu (j' + 1) (by omega))]
        congr 1
        omega
theorem act_ext {a b : Act} (h1 : a.tmps.size = b.tmps.size) (h2 : a.defers = b.defers) (h3 : ∀ s, a.tmps.getD s undef = b.tmps.getD s undef) : a = b := by
  cases a with
  | mk t d =>
    cases b with
    | mk t' d' =>
      simp only at h1 h2 h3
      subst h2
      congr 1
      refine Array.ext h1 fun i hi hi' => ?_
      have := h3 i
      simpa [hi, hi'] using this
theorem dstB_spec {ops : Array Oper} {n m : Nat} (h : dstB ops n m = true) {i s : Nat} (hi : i < n) (hs : (ops[i]?).bind (·.dst) = some s) : s < m ∧ ∀ j, j < n → j ≠ i → (ops[j]?).bind (·.dst) ≠ some s := by
  have h1 := List.all_eq_true.1 h i (List.mem_range.2 hi)
  rw [hs] at h1
  simp only [Bool.and_eq_true, decide_eq_true_eq] at h1
  refine ⟨h1.1, fun j hj hji => ?_⟩
  have h2 := List.all_eq_true.1 h1.2 j (List.mem_range.2 hj)
  simp only [Bool.or_eq_true, decide_eq_true_eq] at h2
  exact h2.resolve_left hji
section
variable {P : Program} {Q : Exit → Act → World → Prop}
theorem region_front {id : Nat} {a0 : Act} {w0 : World} {l : List Oper} (n : Nat) (G : Nat → Value → World → Prop) (R : Array Bool → (Nat → Value) → World → Prop) (E : World → World → Prop)
    (hm : P.follows .mixedOrders = true) (hs : Region.sinkB .any l.toArray n = true) (hc : Region.chainB .any l.toArray n = true) (hd : depsB l.toArray n = true) (hn : n < l.toArray.size) (hdst : dstB l.toArray n a0.tmps.size = true)
    (hseq : Region.seqB .any l.toArray (l.drop n).length n ((Array.replicate n true) ++ Array.replicate (l.toArray.size - n) false) = true)
    (hE : ∀ i x w w', i < n → E w w' → G i x w → G i x w')
    (hR0 : R (Array.replicate l.toArray.size false) (fun _ => undef) { w0 with drawn := w0.drawn + 1 })
    (hstep : ∀ i, i < n → ∀ li v a w, HeadInv .any l.toArray n li → Front l.toArray n G R a0 li v a w → i ∈ Region.ready .any l.toArray li →
      ∃ o, l.toArray[i]? = some o ∧ o.guard = none ∧ o.wp P a w (fun a' w' => ∃ x, a' = a.put o.dst x ∧ E w w' ∧ G i x w' ∧ R (li.setIfInBounds i true) (upd v i x) w') Q)
    (hend : ∀ v w, (∀ i, i < n → G i (v i) w) → R ((Array.replicate n true) ++ Array.replicate (l.toArray.size - n) false) v w → wpList P l.toArray Q (l.drop n) (puts a0 v 0 ((l.take n).map (·.dst))) w) :
    (Code.region id l.toArray true).wp P Q a0 w0 := by
  refine wp_region_any hm ?_
  have inv0 : HeadInv .any l.toArray n (Array.replicate l.toArray.size false) :=
    ⟨by simp, fun j oj _ hl => (by rw [getD_replicate_false] at hl; cases hl), fun t _ ht => getD_in (by simpa using ht) (getD_replicate_false _ _)⟩
  have hmain := wpAny_front (P := P) (Q := Q) (ops := l.toArray) (n := n) (fun li a w => ∃ v, Front l.toArray n G R a0 li v a w) hs hc hd hn ?_ ?_ n (Array.replicate l.toArray.size false) a0 { w0 with drawn := w0.drawn + 1 } inv0 ⟨fun _ => undef, ⟨rfl, rfl, fun i s _ h => (by rw [getD_replicate_false] at h; cases h), fun s _ => rfl, fun i _ h => (by rw [getD_replicate_false] at h; cases h), hR0⟩⟩ (unH_rep _ n (by omega))
  · rwa [show n + (l.toArray.size - n) = l.toArray.size by omega] at hmain
  · intro li a w i inv hI hr hin
    obtain ⟨v, F⟩ := hI
    obtain ⟨o, ho, hg, hwp⟩ := hstep i hin li v a w inv F hr
    refine wpOp_of ho hg (Oper.wp_mono ?_ hwp)
    rintro a' w' ⟨x, rfl, hEw, hG, hR⟩
    have hun : li.getD i true = false := (mem_ready.1 hr).1
    have hob : (l.toArray[i]?).bind (·.dst) = o.dst := by rw [ho]; rfl
    refine ⟨upd v i x, ⟨(put_size _ _ _).trans F.size, (put_defers _ _ _).trans F.defers, fun j s hj hl hd2 => ?_, fun s hs2 => ?_, fun j hj hl => ?_, hR⟩⟩
    · unfold upd
      by_cases e : j = i
      · subst e
        rw [if_pos rfl]
        rw [hob] at hd2
        rw [hd2]
        exact put_same _ _ _ (by rw [F.size]; exact (dstB_spec hdst hj (hob.trans hd2)).1)
      · rw [if_neg e]
        rw [getD_set_ne false (Ne.symm e)] at hl
        rw [put_other _ _ _ _ (by rw [← hob]; exact (dstB_spec hdst hj hd2).2 i hin (Ne.symm e))]
        exact F.done j s hj hl hd2
    · have hlt : i < li.size := by rw [inv.size]; omega
      rw [put_other _ _ _ _ (by rw [← hob]; exact hs2 i hin (by simp [hlt]))]
      exact F.old s fun j hj hl => hs2 j hj (getD_set_true hl)
    · unfold upd
      by_cases e : j = i
      · subst e; rw [if_pos rfl]; exact hG
      · rw [if_neg e]
        rw [getD_set_ne false (Ne.symm e)] at hl
        exact hE _ _ _ _ hj hEw (F.told j hj hl)
  · intro li a w inv hall hI
    obtain ⟨v, F⟩ := hI
    have hli : li = (Array.replicate n true) ++ Array.replicate (l.toArray.size - n) false := by
      refine Array.ext (by rw [inv.size]; simp; simp at hn; omega) fun i hi hi' => ?_
      have hil : i < l.toArray.size := by rw [← inv.size]; exact hi
      by_cases e : i < n
      · have := hall i e
        simp [hi] at this
        rw [this]
        simp [e]
      · have := inv.tail i (by omega) hil
        simp [hi] at this
        rw [this]
        simp [Array.getElem_append, e]
    have hlt : ∀ i, i < n → li.getD i false = true := fun i hi => getD_tfG (by rw [inv.size]; omega) (hall i hi)
    have ha : a = puts a0 v 0 ((l.take n).map (·.dst)) := by
      obtain ⟨p1, p2, p3, p4⟩ := puts_spec v ((l.take n).map (·.dst)) 0 a0
      have hget : ∀ j : Nat, j < n → ((l.take n).map (·.dst))[j]? = ((l.toArray[j]?).map (·.dst)) := fun j hj => by
        simp [hj]
      have hget2 : ∀ j s : Nat, ((l.take n).map (·.dst))[j]? = some (some s) → j < n ∧ (l.toArray[j]?).bind (·.dst) = some s := fun j s h => by
        rcases Nat.lt_or_ge j n with hj | hj
        · refine ⟨hj, ?_⟩
          rw [hget j hj] at h
          cases ho : l.toArray[j]? with
          | none => rw [ho] at h; cases h
          | some o => rw [ho] at h; simpa using h
        · exfalso
          have h0 : ((l.take n).map (·.dst))[j]? = none := List.getElem?_eq_none (by simp; omega)
          rw [h0] at h
          cases h
      refine act_ext (F.size.trans p1.symm) (F.defers.trans p2.symm) fun s => ?_
      by_cases e : ∃ i, i < n ∧ (l.toArray[i]?).bind (·.dst) = some s
      · obtain ⟨i, hi, his⟩ := e
        obtain ⟨q1, q2⟩ := dstB_spec hdst hi his
        rw [F.done i s hi (hlt i hi) his, p4 i s ?_ q1 ?_, Nat.zero_add]
        · rw [hget i hi]
          cases ho : l.toArray[i]? with
          | none => rw [ho] at his; cases his
          | some o => rw [ho] at his; simpa using his
        · intro j' hj' h
          obtain ⟨h1, h2⟩ := hget2 j' s h
          exact q2 j' h1 hj' h2
      · rw [F.old s fun i hi _ h => e ⟨i, hi, h⟩, p3 s fun j h => ?_]
        obtain ⟨h1, h2⟩ := hget2 j s h
        exact e ⟨j, h1, h2⟩
    rw [ha]
    rw [hli] at F ⊢
    have hG : ∀ i, i < n → G i (v i) w := fun i hi => F.told i hi (by rw [← hli]; exact hlt i hi)
    have := wpAny_of_seq (md := .any) (Q' := Q) (l.drop n) n _ (puts a0 v 0 ((l.take n).map (·.dst))) w (fun j => by simp [List.getElem?_drop]) hseq (hend v w hG F.res)
    rwa [show (l.drop n).length = l.toArray.size - n by simp] at this
end
def notB (ops : Array Oper) (n s : Nat) : Bool := (List.range n).all fun i => decide ((ops[i]?).bind (·.dst) ≠ some s)
theorem Front.oldv {ops : Array Oper} {n : Nat} {G : Nat → Value → World → Prop} {R : Array Bool → (Nat → Value) → World → Prop} {a0 a : Act} {l : Array Bool} {v : Nat → Value} {w : World} (F : Front ops n G R a0 l v a w) {s : Nat} (h : notB ops n s = true) : a.tmps.getD s undef = a0.tmps.getD s undef :=
  F.old s fun i hi _ => of_decide_eq_true (List.all_eq_true.1 h i (List.mem_range.2 hi))
theorem Front.slot {ops : Array Oper} {n : Nat} {G : Nat → Value → World → Prop} {R : Array Bool → (Nat → Value) → World → Prop} {a0 a : Act} {l : Array Bool} {v : Nat → Value} {w : World} (F : Front ops n G R a0 l v a w) {i d s : Nat} (hr : i ∈ Region.ready .any ops l) (hh : hasDep ops i d = true) (hd : d < n) (hs : (ops[d]?).bind (·.dst) = some s) : a.tmps.getD s undef = v d ∧ G d (v d) w :=
  ⟨F.done d s hd (dep_of hh hr) hs, F.told d hd (dep_of hh hr)⟩
theorem oper_move {o : Oper} {a : Act} {w : World} {K : Act → World → Prop} {Q : Exit → Act → World → Prop} (x : Operand) (val : Value) (hop : o.op = .move x) (hx : a.eval x = val) (h : K (a.put o.dst val) w) : o.wp Tryd.prog a w K Q := by
  unfold Oper.wp
  simp [execOp, hop, hx]
  exact h
theorem oper_plain {o : Oper} {a : Act} {w w' : World} {K : Act → World → Prop} {Q : Exit → Act → World → Prop} (val : Value) (hrun : (execOp a.eval o).run Tryd.prog w = .ok (.value val) w') (h : K (a.put o.dst val) w') : o.wp Tryd.prog a w K Q := by
  unfold Oper.wp
  rw [hrun]
  exact h
theorem oper_call {o : Oper} {a : Act} {w : World} {K : Act → World → Prop} {Q : Exit → Act → World → Prop} (f : FuncId) (args : Array Value) (hrun : (execOp a.eval o).run Tryd.prog w = .ok (.enter f args) w) (h : Calls Tryd.prog f args w fun e w' => ∃ x, e = .returned x ∧ K (a.put o.dst x) w') : o.wp Tryd.prog a w K Q := by
  unfold Oper.wp
  rw [hrun]
  refine h.mono ?_
  rintro e w' ⟨x, rfl, hx⟩
  exact hx
end Go.Proofs.YtjjhckbidcdkcaaDoor

namespace Go.Proofs.YtjjhckbidcdkcaaDoor
open Go.RowKit Go.Maps
set_option linter.unusedVariables false

/-- Blocks of cells are as they were. -/
def EC (w w' : World) : Prop := w.heap.size ≤ w'.heap.size ∧ ∀ (j : Nat) cs t fz, w.heap[j]? = some (.cells cs t fz) → w'.heap[j]? = w.heap[j]?
theorem EC.of_below {w w' : World} (h : Below w.heap.size w w') : EC w w' := ⟨h.size, fun j cs t fz hj => h.block j (Array.getElem?_eq_some_iff.1 hj).1⟩
theorem RdB.cells {W W' : World} {B : Nat} {l : List Int} {A : Option Addr} (h : RdB W B l A) (hE : EC W W') : RdB W' B l A := by
  rcases h with h | ⟨g, cs, fz, h1, h2, h3, h4⟩
  · exact .inl h
  · exact .inr ⟨g, cs, fz, h1, h2, (hE.2 _ _ _ _ h3).trans h3, h4⟩
theorem OwnB.cells {W W' : World} {B : Nat} {l : List Int} {v : Value} (h : OwnB W B l v) (hE : EC W W') : OwnB W' B l v := by
  obtain ⟨A, c, h1, h2⟩ := h
  exact ⟨A, c, h1, h2.cells hE⟩
theorem own_cells {w w' : World} {B n : Nat} {e : TypeId} {size : Nat} {v : Value} {xs : List Value} (h : w.ownsRow B e size v n xs) (hE : EC w w') : w'.ownsRow B e size v n xs := by
  refine ⟨h.1, ?_⟩
  rcases h.2 with hn | ⟨g, cap, cur, hv, h1, h2, rest⟩
  · exact .inl hn
  · exact .inr ⟨g, cap, cur, hv, h1, (hE.2 _ _ _ _ h2).trans h2, rest⟩
theorem PcsW.cells {W W' : World} {B : Nat} {L : List Pce} {v : Value} (h : PcsW W B L v) (hE : EC W W') : PcsW W' B L v := by
  obtain ⟨A, c, S, h1, h2, h3, h4⟩ := h
  exact ⟨A, c, S, h1, h2, own_cells h3 hE, fun i p u hp hu => (h4 i p u hp hu).cells hE⟩
/-- The map of a literal, on the way: operation 0 makes it, those of P lay its entries, operation m hands it on. -/
structure MpR (w0 : World) (P : List (Nat × Int × Int)) (m : Nat) (l : Array Bool) (v : Nat → Value) (w : World) : Prop where
  bel : Below w0.heap.size w0 w
  made : l.getD 0 false = true → ∃ b L, v 0 = .map (some b) ∧ MapSt w0 w w0.heap.size b L ∧ L.Perm (lit P l)
  no : l.getD 0 false = false → lit P l = []
  mv : l.getD m false = true → l.getD 0 false = true ∧ v m = v 0
theorem upd_ne {v : Nat → Value} {i j : Nat} {x : Value} (h : j ≠ i) : upd v i x j = v j := by unfold upd; rw [if_neg h]
theorem upd_eq {v : Nat → Value} {i : Nat} {x : Value} : upd v i x i = x := by unfold upd; rw [if_pos rfl]
theorem lit_none (l : Array Bool) (m : Nat) (h : ∀ i, l.getD i false = false) : ∀ P : List (Nat × Int × Int), lit P l = []
  | [] => rfl
  | q :: r => by rw [lit_cons, h, lit_none l m h r]; simp
theorem MpR.start (w0 : World) (P : List (Nat × Int × Int)) (m k : Nat) (v : Nat → Value) : MpR w0 P m (Array.replicate k false) v w0 :=
  ⟨Below.refl _ _, fun h => (by rw [getD_replicate_false] at h; cases h), fun _ => lit_none _ 0 (fun i => getD_replicate_false k i) P, fun h => (by rw [getD_replicate_false] at h; cases h)⟩
theorem MpR.next {w0 w w' : World} {P : List (Nat × Int × Int)} {m : Nat} {l : Array Bool} {v : Nat → Value} (h : MpR w0 P m l v w) (hb : Below w.heap.size w w') (i : Nat) (hi : i ≠ 0) (him : i ≠ m) (hm : m ≠ 0) (hP : (P.all fun p => decide (p.1 ≠ i)) = true) (x : Value) : MpR w0 P m (l.setIfInBounds i true) (upd v i x) w' := by
  have hPi : ∀ p ∈ P, p.1 ≠ i := fun p hp => of_decide_eq_true (List.all_eq_true.1 hP p hp)
  refine ⟨h.bel.trans (hb.mono h.bel.size), fun h0 => ?_, fun h0 => ?_, fun h0 => ?_⟩
  · rw [getD_set_ne false hi] at h0
    obtain ⟨b, L, h1, h2, h3⟩ := h.made h0
    exact ⟨b, L, by rw [upd_ne (Ne.symm hi)]; exact h1, mapSt_below h2 hb, by rw [lit_far l i P hPi]; exact h3⟩
  · rw [getD_set_ne false hi] at h0
    rw [lit_far l i P hPi]
    exact h.no h0
  · rw [getD_set_ne false him] at h0
    rw [getD_set_ne false hi, upd_ne (Ne.symm hi), upd_ne (Ne.symm him)]
    exact h.mv h0
theorem MpR.move {w0 w : World} {P : List (Nat × Int × Int)} {m : Nat} {l : Array Bool} {v : Nat → Value} (h : MpR w0 P m l v w) (h0 : l.getD 0 false = true) (hm : m ≠ 0) (hP : (P.all fun p => decide (p.1 ≠ m)) = true) : MpR w0 P m (l.setIfInBounds m true) (upd v m (v 0)) w := by
  have hPi : ∀ p ∈ P, p.1 ≠ m := fun p hp => of_decide_eq_true (List.all_eq_true.1 hP p hp)
  refine ⟨h.bel, fun h1 => ?_, fun h1 => ?_, fun h1 => ?_⟩
  · obtain ⟨b, L, g1, g2, g3⟩ := h.made h0
    exact ⟨b, L, by rw [upd_ne (Ne.symm hm)]; exact g1, g2, by rw [lit_far l m P hPi]; exact g3⟩
  · rw [getD_set_ne false hm, h0] at h1; cases h1
  · rw [getD_set_ne false hm, upd_ne (Ne.symm hm), upd_eq]
    exact ⟨h0, rfl⟩
set_option maxRecDepth 100000 in
theorem MpR.make {w0 w : World} {P : List (Nat × Int × Int)} {m : Nat} {l : Array Bool} {v : Nat → Value} {o : Oper} {a : Act} {Q : Exit → Act → World → Prop} (G : Nat → Value → World → Prop) (hG : ∀ x w, G 0 x w) (h : MpR w0 P m l v w) (hun : l.getD 0 true = false) (hm : m ≠ 0) (hP : (P.all fun p => decide (p.1 ≠ 0)) = true) (t : TypeId) (hop : o.op = .makeMap t none) :
    o.wp Tryd.prog a w (fun a' w' => ∃ x, a' = a.put o.dst x ∧ EC w w' ∧ G 0 x w' ∧ MpR w0 P m (l.setIfInBounds 0 true) (upd v 0 x) w') Q := by
  have hPi : ∀ p ∈ P, p.1 ≠ 0 := fun p hp => of_decide_eq_true (List.all_eq_true.1 hP p hp)
  have h0 := getD_both hun
  have hsz : 0 < l.size := by
    rcases Nat.eq_zero_or_pos l.size with e | e
    · simp [e] at hun
    · exact e
  refine oper_plain (.map (some w.heap.size)) (w' := w.alloc (.map #[] 0)) (by simp [execOp, hop, run_makeMap, Result.andThen]) ⟨_, rfl, EC.of_below ((Below.refl _ w).alloc (Nat.le_refl _) _), hG _ _, ⟨h.bel.alloc h.bel.size _, fun _ => ⟨w.heap.size, [], upd_eq, mapSt_made w0 w _ h.bel h.bel.size, ?_⟩, fun h1 => ?_, fun h1 => ?_⟩⟩
  · rw [lit_far l 0 P hPi, h.no h0]
  · simp [hsz] at h1
  · rw [getD_set_ne false (Ne.symm hm)] at h1
    rw [(h.mv h1).1] at h0
    cases h0
set_option maxRecDepth 100000 in
theorem MpR.insert {w0 w : World} {P : List (Nat × Int × Int)} {m j : Nat} {l : Array Bool} {v : Nat → Value} {o : Oper} {a : Act} {Q : Exit → Act → World → Prop} (G : Nat → Value → World → Prop) (hG : ∀ x w, G j x w) (h : MpR w0 P m l v w) (hun : l.getD j true = false) (hj : j ≠ 0) (hjm : j ≠ m) (hmj : l.getD m false = false) (hm : m ≠ 0) (h0 : l.getD 0 false = true) (mo x y : Operand) (hop : o.op = .insert 158 mo x y) (hdst : o.dst = none) (k c : Int) (hx : a.eval x = .int .i64 k) (hy : a.eval y = .int .i64 c) (hmo : a.eval mo = v 0)
    (hN : (P.map (·.1)).Nodup) (hmem : (j, k, c) ∈ P) (hlen : P.length < 1000) (hk : -9223372036854775808 ≤ k ∧ k ≤ 9223372036854775807) (hc : -9223372036854775808 ≤ c ∧ c ≤ 9223372036854775807) :
    o.wp Tryd.prog a w (fun a' w' => ∃ x, a' = a.put o.dst x ∧ EC w w' ∧ G j x w' ∧ MpR w0 P m (l.setIfInBounds j true) (upd v j x) w') Q := by
  obtain ⟨b, L, hv, hst, hp⟩ := h.made h0
  have hst' := hst
  obtain ⟨⟨n, D, hown, hn, hD, hat⟩, hbel, hbb, hsz⟩ := hst
  have hL : L.length < 1000000 := by
    have h1 := hp.length_eq
    have h2 : (lit P l).length ≤ P.length := by
      unfold lit
      rw [List.length_map]
      exact List.length_filter_le _ _
    omega
  have hkey : keyOf Tryd.prog 3 (.int .i64 k) = some (.int .i64 k) := keyOf_int_mk Tryd.underlying3 (wfI64 hk.1 hk.2)
  have hval := plainElem_int (H := Unit) Tryd.underlying3 (wfI64 hc.1 hc.2)
  obtain ⟨w', hrun, r1, r2⟩ := hown.update mapLaw Tryd.underlying158 (by simp only [maxLen]; omega) hkey hval
  rw [hv] at hmo
  have hEC : EC w w' := by
    refine ⟨r2.size, fun i cs t fz hi => ?_⟩
    refine r2.block i (Array.getElem?_eq_some_iff.1 hi).1 (fun e => ?_)
    have e := (Option.some.inj e)
    subst e
    obtain ⟨es, cl, hes, _⟩ := hown
    have := hes.symm.trans hi
    cases this
  have hm2 : MapSt w0 w' w0.heap.size b ((k, c) :: L) := by
    refine ⟨⟨_, _, r1, by simp only [List.length_cons]; omega, isMap_put hD _ _, fun k' => ?_⟩, ?_, hbb, Nat.le_trans hsz r2.size⟩
    · unfold look
      by_cases e : k = k'
      · subst e
        rw [if_pos rfl]
        exact atKey_put_same hD (show WideAt.IsKeyLit (.int .i64 k) from trivial) _ _
      · rw [if_neg e, ← hat k']
        exact atKey_put_other (fun h => e (by injection h with h1 h2; exact h2.symm)) _ _
    · refine ⟨r2.os.trans hbel.os, r2.tape.trans hbel.tape, r2.output.trans hbel.output, Nat.le_trans hbel.size r2.size, fun i hi => ?_⟩
      have hib : i ≠ b := by omega
      rcases Nat.lt_or_ge i w.heap.size with h1 | h1
      · exact (r2.block i h1 (fun e => hib (by injection e))).trans (hbel.block i hi)
      · obtain ⟨es, cl, hes, _⟩ := hown
        have := (Array.getElem?_eq_some_iff.1 hes).1
        omega
  unfold Oper.wp
  simp [execOp, hop, hmo, hx, hy, hrun, Result.andThen]
  refine ⟨undef, rfl, hEC, hG _ _, ⟨hm2.2.1, fun _ => ⟨b, (k, c) :: L, by rw [upd_ne (Ne.symm hj)]; exact hv, hm2, (hp.cons _).trans (lit_set l j (k, c) hun P hN hmem)⟩, fun h1 => ?_, fun h1 => ?_⟩⟩
  · rw [getD_set_ne false hj, h0] at h1; cases h1
  · rw [getD_set_ne false hjm, hmj] at h1; cases h1
theorem closed_of {ops : Array Oper} {n : Nat} {l : Array Bool} (inv : HeadInv .any ops n l) {j d : Nat} (h : hasDep ops j d = true) (hl : l.getD j false = true) : l.getD d false = true := by
  unfold hasDep at h
  cases ho : ops[j]? with
  | none => rw [ho] at h; cases h
  | some o =>
    rw [ho] at h
    obtain ⟨e, he, hb⟩ := Array.any_eq_true'.1 h
    simp only [Bool.and_eq_true, beq_iff_eq] at hb
    rw [← hb.2]
    exact inv.closed j o ho hl e he hb.1
/-- What the whole literal tells at a key. -/
theorem MpR.look {w0 w : World} {P : List (Nat × Int × Int)} {m : Nat} {l : Array Bool} {v : Nat → Value} (h : MpR w0 P m l v w) (hmd : l.getD m false = true) (hall : ∀ p ∈ P, l.getD p.1 false = true) (hN : ((P.map (·.2)).map (·.1)).Nodup) (k r : Int) (hk : -9223372036854775808 ≤ k ∧ k ≤ 9223372036854775807) (hr : look (P.map (·.2)) k = r) :
    ∃ b, v m = .map (some b) ∧ (Instr.lookup 158 (.map (some b)) (.int .i64 k) false).run Tryd.prog w = .ok (.int .i64 r) w := by
  obtain ⟨h0, hv⟩ := h.mv hmd
  obtain ⟨b, L, h1, h2, h3⟩ := h.made h0
  refine ⟨b, hv.trans h1, run_look h2 k hk.1 hk.2 r ?_⟩
  have h4 : lit P l = P.map (·.2) := by
    unfold lit
    rw [List.filter_eq_self.2 hall]
  rw [h4] at h3
  rw [← look_perm h3.symm k hN]
  exact hr
end Go.Proofs.YtjjhckbidcdkcaaDoor
