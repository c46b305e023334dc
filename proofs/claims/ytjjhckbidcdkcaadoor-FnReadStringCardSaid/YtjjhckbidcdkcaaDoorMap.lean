/- A map of ints that a composite literal lays: what it tells at a key. -/
import Derived.Test.YtjjhckbidcdkcaaDoorKa
import Derived.Test.YtjjhckbidcdkcaaDoorProg
import Derived.Maps.Own
import Derived.Maps.OwnOps
import Derived.Maps.Views
namespace Go.Proofs.YtjjhckbidcdkcaaDoor
open Go.RowKit Go.Maps

/-- What a list of pairs tells at a key: the newest first; 0 where there is none. -/
def look : List (Int × Int) → Int → Int
  | [], _ => 0
  | p :: r, k => if p.1 = k then p.2 else look r k

theorem mapLaw : Keyed Tryd.prog 3 := int_keyed Tryd.underlying3
set_option maxRecDepth 100000 in
theorem mapZero (w : World) : (zeroValue 3).run Tryd.prog w = .ok (.int .i64 0) w := by kernel_rfl
theorem wfI64 {x : Int} (h0 : -9223372036854775808 ≤ x) (h1 : x ≤ 9223372036854775807) : (Lit.int .i64 x).wf = true := by
  simp [Lit.wf, IntKind.min, IntKind.max, IntKind.bits, IntKind.signed]; omega

/-- Block b of W is a map that tells what a list of pairs tells; below block B nothing has turned since w0. -/
def MapSt (w0 W : World) (B b : Nat) (L : List (Int × Int)) : Prop :=
  (∃ n D, W.ownsMap (H := Unit) Tryd.prog 3 (plainElem Tryd.prog 3) b n D ∧ n ≤ L.length ∧ IsMap D ∧ ∀ k, D.atKey (.int .i64 k) (.lit (.int .i64 0)) = .lit (.int .i64 (look L k))) ∧ Below B w0 W ∧ B ≤ b ∧ w0.heap.size ≤ W.heap.size

theorem mapSt_made (w0 w : World) (B : Nat) (hB : Below B w0 w) (hle : B ≤ w.heap.size) : MapSt w0 (w.alloc (.map #[] 0)) B w.heap.size [] :=
  ⟨⟨0, .map [], World.ownsMap_made _ _ _ _, Nat.le_refl _, ⟨[], rfl⟩, fun _ => rfl⟩, hB.alloc hle _, hle, by have := hB.size; simp; omega⟩

theorem isMap_put {D : DataW Unit} (h : IsMap D) (k : Lit) (d : DataW Unit) : IsMap (D.put k d) := by
  obtain ⟨es, rfl⟩ := h
  exact ⟨_, rfl⟩

set_option maxRecDepth 100000 in
theorem wpList_insert_i {w0 w : World} {B b : Nat} {L : List (Int × Int)} {ops : Array Oper} {rest : List Oper} {o : Oper} {a : Act} {Q : Exit → Act → World → Prop}
    (hg : o.guard = none) (m x v : Operand) (t : TypeId) (hop : o.op = .insert t m x v) (ht : Tryd.prog.underlying t = some (.map 3 3)) (k c : Int) (hx : a.eval x = .int .i64 k) (hv : a.eval v = .int .i64 c) (hm : a.eval m = .map (some b))
    (h : MapSt w0 w B b L) (hL : L.length < 1000000) (hk0 : -9223372036854775808 ≤ k) (hk1 : k ≤ 9223372036854775807) (hc0 : -9223372036854775808 ≤ c) (hc1 : c ≤ 9223372036854775807)
    (hK : ∀ w', MapSt w0 w' B b ((k, c) :: L) → wpList Tryd.prog ops Q rest (a.put o.dst undef) w') :
    wpList Tryd.prog ops Q (o :: rest) a w := by
  obtain ⟨⟨n, D, hown, hn, hD, hat⟩, hbel, hbb, hsz⟩ := h
  have hkey : keyOf Tryd.prog 3 (.int .i64 k) = some (.int .i64 k) := keyOf_int_mk Tryd.underlying3 (wfI64 hk0 hk1)
  have hval := plainElem_int (H := Unit) Tryd.underlying3 (wfI64 hc0 hc1)
  refine wpList_plain hg fun K' hK' => ?_
  obtain ⟨w', hrun, r1, r2⟩ := hown.update mapLaw ht (by simp only [maxLen]; omega) hkey hval
  unfold Oper.wp
  simp [execOp, hop, hm, hx, hv, hrun, Result.andThen]
  refine hK' _ _ (hK w' ⟨⟨_, _, r1, by simp only [List.length_cons]; omega, isMap_put hD _ _, fun k' => ?_⟩, ?_, hbb, Nat.le_trans hsz r2.size⟩)
  · unfold look
    by_cases e : k = k'
    · subst e
      rw [if_pos rfl]
      exact atKey_put_same hD (show WideAt.IsKeyLit (.int .i64 k) from trivial) _ _
    · rw [if_neg e, ← hat k']
      exact atKey_put_other (fun h => e (by injection h with h1 h2; exact h2.symm)) _ _
  · refine ⟨r2.os.trans hbel.os, r2.tape.trans hbel.tape, r2.output.trans hbel.output, Nat.le_trans hbel.size r2.size, fun i hi => ?_⟩
    have hib : i ≠ b := by omega
    rcases Nat.lt_or_ge i w.heap.size with h1 | h1
    · exact (r2.block i h1 (fun e => hib (by injection e))).trans (hbel.block i hi)
    · obtain ⟨es, cl, hes, _⟩ := hown
      have := (Array.getElem?_eq_some_iff.1 hes).1
      omega

set_option maxRecDepth 100000 in
theorem wpList_lookup_i {w0 w : World} {B b : Nat} {L : List (Int × Int)} {ops : Array Oper} {rest : List Oper} {o : Oper} {a : Act} {Q : Exit → Act → World → Prop}
    (hg : o.guard = none) (m x : Operand) (t : TypeId) (hop : o.op = .lookup t m x false) (ht : Tryd.prog.underlying t = some (.map 3 3)) (k : Int) (hx : a.eval x = .int .i64 k) (hm : a.eval m = .map (some b))
    (h : MapSt w0 w B b L) (hk0 : -9223372036854775808 ≤ k) (hk1 : k ≤ 9223372036854775807) (r : Int) (hr : look L k = r)
    (hK : wpList Tryd.prog ops Q rest (a.put o.dst (.int .i64 r)) w) :
    wpList Tryd.prog ops Q (o :: rest) a w := by
  obtain ⟨⟨n, D, hown, hn, hD, hat⟩, hbel, hbb, hsz⟩ := h
  have hkey : keyOf Tryd.prog 3 (.int .i64 k) = some (.int .i64 k) := keyOf_int_mk Tryd.underlying3 (wfI64 hk0 hk1)
  refine wpList_plain hg fun K' hK' => ?_
  obtain ⟨c, hrun, hc, _⟩ := hown.lookup_int mapLaw ht Tryd.underlying3 (mapZero w) hkey
  rw [hat k] at hc
  have e : r = c := by rw [← hr]; injection hc with h1; injection h1
  unfold Oper.wp
  simp [execOp, hop, hx, hm, hrun, Result.andThen]
  rw [e] at hK
  exact hK' _ _ hK

section
variable {P : Program} {ops : Array Oper} {rest : List Oper} {o : Oper} {a : Act} {Q : Exit → Act → World → Prop} {W : World}
theorem gate_insert {t : TypeId} {m x v : Operand} (_ho : o.op = .insert t m x v) (h : wpList P ops Q (o :: rest) a W) : wpList P ops Q (o :: rest) a W := h
theorem gate_lookup {t : TypeId} {m x : Operand} {ok : Bool} (_ho : o.op = .lookup t m x ok) (h : wpList P ops Q (o :: rest) a W) : wpList P ops Q (o :: rest) a W := h
theorem gate_makeMap {t : TypeId} {x : Option Operand} (_ho : o.op = .makeMap t x) (h : wpList P ops Q (o :: rest) a W) : wpList P ops Q (o :: rest) a W := h
end
set_option maxRecDepth 100000 in
theorem wpList_makeMap_i {w0 w : World} {B : Nat} {ops : Array Oper} {rest : List Oper} {o : Oper} {a : Act} {Q : Exit → Act → World → Prop}
    (hg : o.guard = none) (t : TypeId) (hop : o.op = .makeMap t none) (hB : Below B w0 w) (hle : B ≤ w.heap.size)
    (hK : ∀ w' b, MapSt w0 w' B b [] → wpList Tryd.prog ops Q rest (a.put o.dst (.map (some b))) w') :
    wpList Tryd.prog ops Q (o :: rest) a w := by
  refine wpList_plain hg fun K' hK' => ?_
  unfold Oper.wp
  simp [execOp, hop, run_makeMap, Result.andThen]
  exact hK' _ _ (hK _ _ (mapSt_made w0 w B hB hle))
end Go.Proofs.YtjjhckbidcdkcaaDoor
