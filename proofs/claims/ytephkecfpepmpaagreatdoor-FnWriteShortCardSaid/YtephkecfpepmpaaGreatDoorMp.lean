/- A map of pairs that a literal lays; takeBig as a value. PRINTED by wip/genmap.py. -/
import Derived.Test.YtephkecfpepmpaaGreatDoorKe
import Derived.Test.YtephkecfpepmpaaGreatDoorMap
import Derived.BigQuiet
namespace Go.Proofs.YtephkecfpepmpaaGreatDoor
open Go.RowKit Go.Maps
set_option linter.unusedVariables false
def pairD (c d : Int) : DataW Unit := .agg [.lit (.int .i64 c), .lit (.int .i64 d)]
def pairElem (v : Value) : Option (DataW Unit × List MemPlace) :=
  match v with
  | .agg cs => (match cs.toList with | [.int .i64 a, .int .i64 b] => some (pairD a b, []) | _ => none)
  | _ => none
theorem pairElem_mk (a b : Int) : pairElem (.agg #[.int .i64 a, .int .i64 b]) = some (pairD a b, []) := rfl
theorem pairElem_inv {v : Value} {z : DataW Unit × List MemPlace} {a b : Int} (h : pairElem v = some z) (hz : z.1 = pairD a b) : v = .agg #[.int .i64 a, .int .i64 b] := by
  unfold pairElem at h
  split at h
  · rename_i cs
    split at h
    · rename_i x y hcs
      cases h
      simp only [pairD, DataW.agg.injEq, List.cons.injEq, DataW.lit.injEq, Lit.int.injEq, and_true, true_and] at hz
      obtain ⟨rfl, rfl⟩ := hz
      congr 1
      exact Array.toList_inj.1 hcs
    · cases h
  · cases h
def look2 : List (Int × Int × Int) → Int → DataW Unit → DataW Unit
  | [], _, z => z
  | p :: r, k, z => if p.1 = k then pairD p.2.1 p.2.2 else look2 r k z
set_option maxRecDepth 100000 in
theorem pairZero (w : World) : (zeroValue 201).run Tryz.prog w = .ok (.agg #[.int .i64 0, .int .i64 0]) w := by kernel_rfl
/-- Block b of W is a map that tells what a list of pairs tells; below block B nothing has turned since w0. -/
def MapP (w0 W : World) (B b : Nat) (L : List (Int × Int × Int)) : Prop :=
  (∃ n D, W.ownsMap (H := Unit) Tryz.prog 3 pairElem b n D ∧ n ≤ L.length ∧ IsMap D ∧ ∀ k z, D.atKey (.int .i64 k) z = look2 L k z) ∧ Below B w0 W ∧ B ≤ b ∧ w0.heap.size ≤ W.heap.size
theorem mapP_made (w0 w : World) (B : Nat) (hB : Below B w0 w) (hle : B ≤ w.heap.size) : MapP w0 (w.alloc (.map #[] 0)) B w.heap.size [] :=
  ⟨⟨0, .map [], World.ownsMap_made _ _ _ _, Nat.le_refl _, ⟨[], rfl⟩, fun _ _ => rfl⟩, hB.alloc hle _, hle, by have := hB.size; simp; omega⟩
set_option maxRecDepth 100000 in
theorem wpList_makeMap_p {w0 w : World} {B : Nat} {ops : Array Oper} {rest : List Oper} {o : Oper} {a : Act} {Q : Exit → Act → World → Prop}
    (hg : o.guard = none) (t : TypeId) (hop : o.op = .makeMap t none) (hB : Below B w0 w) (hle : B ≤ w.heap.size)
    (hK : ∀ w' b, MapP w0 w' B b [] → wpList Tryz.prog ops Q rest (a.put o.dst (.map (some b))) w') :
    wpList Tryz.prog ops Q (o :: rest) a w := by
  refine wpList_plain hg fun K' hK' => ?_
  unfold Oper.wp
  simp [execOp, hop, run_makeMap, Result.andThen]
  exact hK' _ _ (hK _ _ (mapP_made w0 w B hB hle))
set_option maxRecDepth 100000 in
theorem wpList_insert_p {w0 w : World} {B b : Nat} {L : List (Int × Int × Int)} {ops : Array Oper} {rest : List Oper} {o : Oper} {a : Act} {Q : Exit → Act → World → Prop}
    (hg : o.guard = none) (m x v : Operand) (t : TypeId) (hop : o.op = .insert t m x v) (ht : Tryz.prog.underlying t = some (.map 3 201)) (k c d : Int) (hx : a.eval x = .int .i64 k) (hv : a.eval v = .agg #[.int .i64 c, .int .i64 d]) (hm : a.eval m = .map (some b))
    (h : MapP w0 w B b L) (hL : L.length < 1000000) (hk0 : -9223372036854775808 ≤ k) (hk1 : k ≤ 9223372036854775807)
    (hK : ∀ w', MapP w0 w' B b ((k, c, d) :: L) → wpList Tryz.prog ops Q rest (a.put o.dst undef) w') :
    wpList Tryz.prog ops Q (o :: rest) a w := by
  obtain ⟨⟨n, D, hown, hn, hD, hat⟩, hbel, hbb, hsz⟩ := h
  have hkey : keyOf Tryz.prog 3 (.int .i64 k) = some (.int .i64 k) := keyOf_int_mk Tryz.underlying3 (wfI64 hk0 hk1)
  refine wpList_plain hg fun K' hK' => ?_
  obtain ⟨w', hrun, r1, r2⟩ := hown.update mapLaw ht (by simp only [maxLen]; omega) hkey (pairElem_mk c d)
  unfold Oper.wp
  simp [execOp, hop, hm, hx, hv, hrun, Result.andThen]
  refine hK' _ _ (hK w' ⟨⟨_, _, r1, by simp only [List.length_cons]; omega, isMap_put hD _ _, fun k' z => ?_⟩, ?_, hbb, Nat.le_trans hsz r2.size⟩)
  · unfold look2
    by_cases e : k = k'
    · subst e
      rw [if_pos rfl]
      exact atKey_put_same hD (show WideAt.IsKeyLit (.int .i64 k) from trivial) _ _
    · rw [if_neg e, ← hat k']
      exact atKey_put_other (fun h => e (by injection h with h1 h2; exact h2.symm)) _ _
  · refine ⟨r2.os.trans hbel.os, r2.tape.trans hbel.tape, r2.output.trans hbel.output, Nat.le_trans hbel.size r2.size, fun i hi => ?_⟩
    have hib : i ≠ b := by omega
    rcases Nat.lt_or_ge i w.heap.size with h1 | h1
    · exact (r2.block i h1 (fun e => hib (by injection e))).trans (hbel.block i hi)
    · obtain ⟨es, cl, hes, _⟩ := hown
      have := (Array.getElem?_eq_some_iff.1 hes).1
      omega
set_option maxRecDepth 100000 in
theorem wpList_lookup_p {w0 w : World} {B b : Nat} {L : List (Int × Int × Int)} {ops : Array Oper} {rest : List Oper} {o : Oper} {a : Act} {Q : Exit → Act → World → Prop}
    (hg : o.guard = none) (m x : Operand) (t : TypeId) (hop : o.op = .lookup t m x true) (ht : Tryz.prog.underlying t = some (.map 3 201)) (k : Int) (hx : a.eval x = .int .i64 k) (hm : a.eval m = .map (some b))
    (h : MapP w0 w B b L) (hk0 : -9223372036854775808 ≤ k) (hk1 : k ≤ 9223372036854775807) (c d : Int) (hr : look2 L k (.lit (.int .i64 0)) = pairD c d)
    (hK : wpList Tryz.prog ops Q rest (a.put o.dst (.tuple #[.agg #[.int .i64 c, .int .i64 d], .bool true])) w) :
    wpList Tryz.prog ops Q (o :: rest) a w := by
  obtain ⟨⟨n, D, hown, hn, hD, hat⟩, hbel, hbb, hsz⟩ := h
  have hkey : keyOf Tryz.prog 3 (.int .i64 k) = some (.int .i64 k) := keyOf_int_mk Tryz.underlying3 (wfI64 hk0 hk1)
  refine wpList_plain hg fun K' hK' => ?_
  obtain ⟨es, clock, hb, F, _, rfl⟩ := hown
  have hrun : (Instr.lookup t (.map (some b)) (.int .i64 k) true).run Tryz.prog w = .ok (.tuple #[.agg #[.int .i64 c, .int .i64 d], .bool true]) w := by
    rcases Maps.fit_look true mapLaw ht (pairZero w) hb F hkey with ⟨_, _, hmiss⟩ | ⟨e0, y, _, _, hrun, hR, hhit, _⟩
    · have h1 := hmiss (.lit (.int .i64 0))
      rw [hat, hr] at h1
      cases h1
    · have h1 := hhit (.lit (.int .i64 0))
      rw [hat, hr] at h1
      rw [pairElem_inv hR h1.symm] at hrun
      exact hrun
  unfold Oper.wp
  simp [execOp, hop, hx, hm, hrun, Result.andThen]
  exact hK' _ _ hK

set_option maxHeartbeats 1000000 in
theorem takeBig_val (w : World) (B k c : Nat) (A : Option Addr) (l : List Int) (h : Reads w B 1 A l.length (bs l)) (hl : IsB l) (hk : k ≤ 8) (hkl : k ≤ l.length) (hc : l.length ≤ c) (hm : c ≤ maxLen) :
    Calls Tryz.prog 67 #[.slice A l.length c, .int .i64 k] w fun e w' => e = .returned (.tuple #[.int .u64 (valBE (l.take k)), .slice (if c = k then A else A.map (·.add k)) (l.drop k).length (c - k), .bool true]) ∧ ∃ n, w' = w.drewN n := by
  have H := Lib.hid h
  have HL := Lib.hid hl
  have hm' : c ≤ 9223372036854775807 := by unfold maxLen at hm; omega
  have hd : decide (l.length < k) = false := by simp; omega
  clear h hl hm
  go_enter Tryz.func67, Tryz.ntmps67
  go_wp2
  go_loop [7, 18] (fun u i => ∃ j : Nat, j ≤ k ∧ i = .int .i64 j ∧ u = .int .u64 (valBE (l.take j))) (fun _ i => k - (intOf i).toNat)
  case atStart => exact ⟨0, Nat.zero_le _, rfl, rfl⟩
  case round =>
    obtain ⟨j, hj, rfl, rfl⟩ := hrel
    by_cases hlt : j < k
    · obtain ⟨ad, hA, _, hcell⟩ := H.out.byte (k := j) (by omega)
      subst hA
      have hts : l.take (j + 1) = l.take j ++ [l.getD j 0] := take_snoc_getD l j (by omega)
      have hr := valBE_range (l.take j) (fun x hx => HL.out x (List.mem_of_mem_take hx))
      have hb := HL.out (l.getD j 0) (getD_mem l j (by omega))
      have hp : (256 : Int) ^ (l.take j).length ≤ 72057594037927936 := pow_le7 _ (by rw [List.length_take]; omega)
      have hu : valBE (l.take j) < 72057594037927936 := by omega
      have hsn : valBE (l.take (j + 1)) = valBE (l.take j) * 256 + l.getD j 0 := by rw [hts, valBE_snoc]
      obtain ⟨hr0, _⟩ := hr
      obtain ⟨hb0, hb1⟩ := hb
      have HSN := Lib.hid hsn
      clear hts hsn hp
      generalize valBE (l.take j) = u at *
      generalize l.getD j 0 = b at *
      have hor := or_join8 u b hr0 hu hb0 hb1
      go_wp2
      go_round
      case rel => exact ⟨j + 1, by omega, by go_num, by rw [HSN.out]⟩
      case measure => simp [intOf]; omega
    · obtain rfl : j = k := by omega
      by_cases hcj : c = j
      · subst hcj
        go_wp2
        go_quiet (fail)
        go_wp2
        go_ret3
        exact ⟨rfl, _, rfl⟩
      · go_wp2
        go_quiet (fail)
        go_wp2
        go_ret3
        first | exact ⟨rfl, _, rfl⟩ | exact ⟨by rw [List.length_drop]; rfl, _, rfl⟩ | exact ⟨by rw [if_neg hcj, List.length_drop]; rfl, _, rfl⟩

theorem takeBig_abs (B c k : Nat) (z : Int) (hz : z = (k : Int)) (A : Option Addr) (l : List Int) (hl : IsB l) (hk : k ≤ 8) (hkl : k ≤ l.length) (hc : l.length ≤ c) (hm : c ≤ maxLen) :
    ∃ A' c', (l.drop k).length ≤ c' ∧ c' ≤ c ∧ (∀ W, Reads W B 1 A l.length (bs l) → Reads W B 1 A' (l.drop k).length (bs (l.drop k))) ∧
      ∀ W, Reads W B 1 A l.length (bs l) → Calls Tryz.prog 67 #[.slice A l.length c, .int .i64 z] W fun e w' => e = .returned (.tuple #[.int .u64 (valBE (l.take k)), .slice A' (l.drop k).length c', .bool true]) ∧ ∃ n, w' = W.drewN n := by
  subst hz
  exact ⟨_, _, by rw [List.length_drop]; omega, by omega, fun W h => reads_cut h hkl hc rfl, fun W h => takeBig_val W B k c A l h hl hk hkl hc hm⟩
end Go.Proofs.YtephkecfpepmpaaGreatDoor
