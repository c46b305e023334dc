/- spec.fixedSize: its region draws its order. PRINTED by wip/genhg.py. -/
import Derived.Test.YtjjhckbidcdkcaaDoorHd
import Derived.Test.YtjjhckbidcdkcaaDoorHe
namespace Go.Proofs.YtjjhckbidcdkcaaDoor
open Go.RowKit Go.Maps
set_option linter.unusedVariables false

def fsP : List (Nat × Int × Int) := [(1, 2, 1), (2, 6, 1), (3, 3, 2), (4, 7, 2), (5, 4, 4), (6, 8, 4), (7, 10, 4), (8, 12, 4), (9, 15, 4), (10, 5, 8), (11, 9, 8), (12, 11, 8), (13, 13, 8), (14, 16, 8), (15, 14, 16), (16, 17, 16)]
def fsD : List (Nat × Nat) := [(1, 0), (2, 0), (3, 0), (4, 0), (5, 0), (6, 0), (7, 0), (8, 0), (9, 0), (10, 0), (11, 0), (12, 0), (13, 0), (14, 0), (15, 0), (16, 0), (17, 0), (17, 1), (17, 2), (17, 3), (17, 4), (17, 5), (17, 6), (17, 7), (17, 8), (17, 9), (17, 10), (17, 11), (17, 12), (17, 13), (17, 14), (17, 15), (17, 16), (19, 17), (19, 18), (21, 20), (22, 19), (22, 21), (23, 22)]
def hasDep (ops : Array Oper) (j d : Nat) : Bool := match ops[j]? with
  | some o => o.after.any fun e => Region.binds .any e && e.on == d
  | none => false
theorem dep_of {ops : Array Oper} {j d : Nat} (h : hasDep ops j d = true) {l : Array Bool} (hr : j ∈ Region.ready .any ops l) : l.getD d false = true := by
  obtain ⟨_, o, ho, hall⟩ := mem_ready.1 hr
  unfold hasDep at h
  rw [ho] at h
  obtain ⟨e, he, hb⟩ := Array.any_eq_true'.1 h
  simp only [Bool.and_eq_true, beq_iff_eq] at hb
  rw [← hb.2]
  exact hall e he hb.1
theorem gs (l : Array Bool) (i j : Nat) (hi : i < l.size) : (l.setIfInBounds i true).getD j false = (decide (i = j) || l.getD j false) := by
  by_cases e : i = j
  · subst e; simp [hi]
  · rw [getD_set_ne false e]; simp [e]
/-- What holds on the way. -/
def FsI (w : World) (k R S : Int) (l : Array Bool) (a : Act) (w' : World) : Prop := ∃ t2 t3 t4 t5 t6 t7 t8 t9 : Value,
  a = { tmps := #[.int .i64 k, undef, t2, t3, t4, t5, t6, t7, t8, t9], defers := [] } ∧ l.size = 24 ∧
  (l.getD 0 false = true → ∃ b L, t3 = .map (some b) ∧ MapSt w w' w.heap.size b L ∧ L.Perm (lit fsP l)) ∧
  (l.getD 0 false = false → Below w.heap.size w w' ∧ lit fsP l = []) ∧
  (l.getD 17 false = true → t4 = t3 ∧ l.getD 0 false = true ∧ ∀ p ∈ fsP, l.getD p.1 false = true) ∧
  (l.getD 18 false = true → t5 = .int .i64 k) ∧ (l.getD 19 false = true → t6 = .int .i64 R) ∧ (l.getD 20 false = true → t7 = .int .i64 k) ∧
  (l.getD 21 false = true → t8 = .int .i64 S) ∧ (l.getD 22 false = true → t9 = .int .i64 (R - S)) ∧ (l.getD 23 false = true → t2 = .int .i64 (R - S))
theorem fsP_nodup : (fsP.map (·.1)).Nodup := by decide
theorem fsK_nodup : ((fsP.map (·.2)).map (·.1)).Nodup := by decide
theorem fs_full (l : Array Bool) (h : ∀ p ∈ fsP, l.getD p.1 false = true) : lit fsP l = fsP.map (·.2) := by
  unfold lit
  rw [List.filter_eq_self.2 h]
theorem fs_look (k : Int) : look (fsP.map (·.2)) k = look fszL k := look_perm (by decide) k fsK_nodup
theorem fs_end (ops : Array Oper) (w : World) (k R S : Int) (hn : ops.size = 24) (Q : Exit → Act → World → Prop)
    (hd : (fsD.all fun p => hasDep ops p.1 p.2) = true)
    (hQ : ∀ (a : Act) (w' : World), (∃ t3 t4 t5 t6 t7 t8 t9 : Value, a = { tmps := #[.int .i64 k, undef, .int .i64 (R - S), t3, t4, t5, t6, t7, t8, t9], defers := [] }) → Below w.heap.size w w' → Q .normal a w')
    (l : Array Bool) (a : Act) (w' : World) (h : FsI w k R S l a w') (hall : ∀ j, j < 24 → l.getD j false = true) : Q .normal a w' := by
  obtain ⟨t2, t3, t4, t5, t6, t7, t8, t9, rfl, _, h0, _, _, _, _, _, _, _, h23⟩ := h
  obtain ⟨b, L, _, hm, _⟩ := h0 (hall 0 (by omega))
  obtain rfl := h23 (hall 23 (by omega))
  exact hQ _ _ ⟨t3, t4, t5, t6, t7, t8, t9, rfl⟩ hm.2.1

theorem wpOp_of {P : Program} {ops : Array Oper} {Q : Exit → Act → World → Prop} {i : Nat} {K : Act → World → Prop} {a : Act} {w : World} {o : Oper} (ho : ops[i]? = some o) (hg : o.guard = none) (h : o.wp P a w K Q) : wpOp P ops Q i K a w := by
  unfold wpOp
  rw [ho]
  have e : Region.wanted o (yielded ops a.tmps) = true := by unfold Region.wanted; rw [hg]
  simp only [e, if_true]
  exact .inl h
set_option maxRecDepth 100000 in
theorem oper_make {w0 w : World} {B : Nat} {o : Oper} {a : Act} {K : Act → World → Prop} {Q : Exit → Act → World → Prop} (t : TypeId) (hop : o.op = .makeMap t none) (hB : Below B w0 w) (hle : B ≤ w.heap.size)
    (hK : ∀ w' b, MapSt w0 w' B b [] → K (a.put o.dst (.map (some b))) w') : o.wp Tryd.prog a w K Q := by
  unfold Oper.wp
  simp [execOp, hop, run_makeMap, Result.andThen]
  exact hK _ _ (mapSt_made w0 w B hB hle)
set_option maxRecDepth 100000 in
theorem oper_insert {w0 w : World} {B b : Nat} {L : List (Int × Int)} {o : Oper} {a : Act} {K : Act → World → Prop} {Q : Exit → Act → World → Prop}
    (m x v : Operand) (t : TypeId) (hop : o.op = .insert t m x v) (ht : Tryd.prog.underlying t = some (.map 3 3)) (k c : Int) (hx : a.eval x = .int .i64 k) (hv : a.eval v = .int .i64 c) (hm : a.eval m = .map (some b))
    (h : MapSt w0 w B b L) (hL : L.length < 1000000) (hk0 : -9223372036854775808 ≤ k) (hk1 : k ≤ 9223372036854775807) (hc0 : -9223372036854775808 ≤ c) (hc1 : c ≤ 9223372036854775807)
    (hK : ∀ w', MapSt w0 w' B b ((k, c) :: L) → K (a.put o.dst undef) w') : o.wp Tryd.prog a w K Q := by
  obtain ⟨⟨n, D, hown, hn, hD, hat⟩, hbel, hbb, hsz⟩ := h
  have hkey : keyOf Tryd.prog 3 (.int .i64 k) = some (.int .i64 k) := keyOf_int_mk Tryd.underlying3 (wfI64 hk0 hk1)
  have hval := plainElem_int (H := Unit) Tryd.underlying3 (wfI64 hc0 hc1)
  obtain ⟨w', hrun, r1, r2⟩ := hown.update mapLaw ht (by simp only [maxLen]; omega) hkey hval
  unfold Oper.wp
  simp [execOp, hop, hm, hx, hv, hrun, Result.andThen]
  refine (hK w' ⟨⟨_, _, r1, by simp only [List.length_cons]; omega, isMap_put hD _ _, fun k' => ?_⟩, ?_, hbb, Nat.le_trans hsz r2.size⟩)
  · unfold look
    by_cases e : k = k'
    · subst e
      rw [if_pos rfl]
      exact atKey_put_same hD (show WideAt.IsKeyLit (.int .i64 k) from trivial) _ _
    · rw [if_neg e, ← hat k']
      exact atKey_put_other (fun h => e (by injection h with h1 h2; exact h2.symm)) _ _
  · refine ⟨r2.os.trans hbel.os, r2.tape.trans hbel.tape, r2.output.trans hbel.output, Nat.le_trans hbel.size r2.size, fun i hi => ?_⟩
    have hib : i ≠ b := by omega
    rcases Nat.lt_or_ge i w.heap.size with h1 | h1
    · exact (r2.block i h1 (fun e => hib (by injection e))).trans (hbel.block i hi)
    · obtain ⟨es, cl, hes, _⟩ := hown
      have := (Array.getElem?_eq_some_iff.1 hes).1
      omega
set_option maxRecDepth 100000 in
theorem oper_lookup {w0 w : World} {B b : Nat} {L : List (Int × Int)} {o : Oper} {a : Act} {K : Act → World → Prop} {Q : Exit → Act → World → Prop}
    (m x : Operand) (t : TypeId) (hop : o.op = .lookup t m x false) (ht : Tryd.prog.underlying t = some (.map 3 3)) (k : Int) (hx : a.eval x = .int .i64 k) (hm : a.eval m = .map (some b))
    (h : MapSt w0 w B b L) (hk0 : -9223372036854775808 ≤ k) (hk1 : k ≤ 9223372036854775807) (r : Int) (hr : look L k = r)
    (hK : K (a.put o.dst (.int .i64 r)) w) : o.wp Tryd.prog a w K Q := by
  obtain ⟨⟨n, D, hown, hn, hD, hat⟩, hbel, hbb, hsz⟩ := h
  have hkey : keyOf Tryd.prog 3 (.int .i64 k) = some (.int .i64 k) := keyOf_int_mk Tryd.underlying3 (wfI64 hk0 hk1)
  obtain ⟨c, hrun, hc, _⟩ := hown.lookup_int mapLaw ht Tryd.underlying3 (mapZero w) hkey
  rw [hat k] at hc
  have e : r = c := by rw [← hr]; injection hc with h1; injection h1
  unfold Oper.wp
  simp [execOp, hop, hx, hm, hrun, Result.andThen]
  rw [e] at hK
  exact hK
theorem fs_step18 (ops : Array Oper) (Q : Exit → Act → World → Prop) (w : World) (k R S : Int) (hk : -9223372036854775808 ≤ k ∧ k ≤ 9223372036854775807) (hR : look fszL k = R) (hw : IntKind.i64.wrap (R - S) = R - S) (hS : ∀ W, Calls Tryd.prog 101 #[.int .i64 k] W fun e w' => e = .returned (.int .i64 S) ∧ w' = W)
    (hd : (fsD.all fun p => hasDep ops p.1 p.2) = true)
    (hop : ∃ o, ops[18]? = some o ∧ o.guard = none ∧ o.op = .move (.tmp 0) ∧ o.dst = some 5) (l : Array Bool) (a : Act) (w' : World) (h : FsI w k R S l a w') (hr : 18 ∈ Region.ready .any ops l) : wpOp Tryd.prog ops Q 18 (fun a' w'' => FsI w k R S (l.setIfInBounds 18 true) a' w'') a w' := by
  obtain ⟨o, ho, hg, hop, hdst⟩ := hop
  obtain ⟨t2, t3, t4, t5, t6, t7, t8, t9, rfl, hsz, h0, h0n, h17, h18, h19, h20, h21, h22, h23⟩ := h
  have hun : l.getD 18 true = false := (mem_ready.1 hr).1
  have hsz2 : 18 < l.size := by omega
  have hunf : l.getD 18 false = false := by simpa [hsz2] using hun
  refine wpOp_of ho hg ?_
  unfold Oper.wp
  simp only [execOp, hop]
  show FsI _ _ _ _ _ _ _
  refine ⟨t2, t3, t4, .int .i64 k, t6, t7, t8, t9, ?_, by simpa using hsz, ?_, ?_, ?_, fun _ => rfl, fun hh => h19 (by rw [gs l 18 19 hsz2] at hh; simpa using hh), fun hh => h20 (by rw [gs l 18 20 hsz2] at hh; simpa using hh), fun hh => h21 (by rw [gs l 18 21 hsz2] at hh; simpa using hh), fun hh => h22 (by rw [gs l 18 22 hsz2] at hh; simpa using hh), fun hh => h23 (by rw [gs l 18 23 hsz2] at hh; simpa using hh)⟩
  · rw [hdst]; rfl
  · exact fun hh => by
      obtain ⟨b, L, e, hm, hp⟩ := h0 (by rw [gs l 18 0 hsz2] at hh; simpa using hh)
      exact ⟨b, L, e, hm, by rw [lit_far l 18 fsP (by decide)]; exact hp⟩
  · exact fun hh => by
      have := h0n (by rw [gs l 18 0 hsz2] at hh; simpa using hh)
      exact ⟨this.1, by rw [lit_far l 18 fsP (by decide)]; exact this.2⟩
  · exact fun hh => by
      have := h17 (by rw [gs l 18 17 hsz2] at hh; simpa using hh)
      exact ⟨this.1, getD_set_true this.2.1, fun p hp => getD_set_true (this.2.2 p hp)⟩
theorem fs_step20 (ops : Array Oper) (Q : Exit → Act → World → Prop) (w : World) (k R S : Int) (hk : -9223372036854775808 ≤ k ∧ k ≤ 9223372036854775807) (hR : look fszL k = R) (hw : IntKind.i64.wrap (R - S) = R - S) (hS : ∀ W, Calls Tryd.prog 101 #[.int .i64 k] W fun e w' => e = .returned (.int .i64 S) ∧ w' = W)
    (hd : (fsD.all fun p => hasDep ops p.1 p.2) = true)
    (hop : ∃ o, ops[20]? = some o ∧ o.guard = none ∧ o.op = .move (.tmp 0) ∧ o.dst = some 7) (l : Array Bool) (a : Act) (w' : World) (h : FsI w k R S l a w') (hr : 20 ∈ Region.ready .any ops l) : wpOp Tryd.prog ops Q 20 (fun a' w'' => FsI w k R S (l.setIfInBounds 20 true) a' w'') a w' := by
  obtain ⟨o, ho, hg, hop, hdst⟩ := hop
  obtain ⟨t2, t3, t4, t5, t6, t7, t8, t9, rfl, hsz, h0, h0n, h17, h18, h19, h20, h21, h22, h23⟩ := h
  have hun : l.getD 20 true = false := (mem_ready.1 hr).1
  have hsz2 : 20 < l.size := by omega
  have hunf : l.getD 20 false = false := by simpa [hsz2] using hun
  refine wpOp_of ho hg ?_
  unfold Oper.wp
  simp only [execOp, hop]
  show FsI _ _ _ _ _ _ _
  refine ⟨t2, t3, t4, t5, t6, .int .i64 k, t8, t9, ?_, by simpa using hsz, ?_, ?_, ?_, fun hh => h18 (by rw [gs l 20 18 hsz2] at hh; simpa using hh), fun hh => h19 (by rw [gs l 20 19 hsz2] at hh; simpa using hh), fun _ => rfl, fun hh => h21 (by rw [gs l 20 21 hsz2] at hh; simpa using hh), fun hh => h22 (by rw [gs l 20 22 hsz2] at hh; simpa using hh), fun hh => h23 (by rw [gs l 20 23 hsz2] at hh; simpa using hh)⟩
  · rw [hdst]; rfl
  · exact fun hh => by
      obtain ⟨b, L, e, hm, hp⟩ := h0 (by rw [gs l 20 0 hsz2] at hh; simpa using hh)
      exact ⟨b, L, e, hm, by rw [lit_far l 20 fsP (by decide)]; exact hp⟩
  · exact fun hh => by
      have := h0n (by rw [gs l 20 0 hsz2] at hh; simpa using hh)
      exact ⟨this.1, by rw [lit_far l 20 fsP (by decide)]; exact this.2⟩
  · exact fun hh => by
      have := h17 (by rw [gs l 20 17 hsz2] at hh; simpa using hh)
      exact ⟨this.1, getD_set_true this.2.1, fun p hp => getD_set_true (this.2.2 p hp)⟩
theorem fs_step17 (ops : Array Oper) (Q : Exit → Act → World → Prop) (w : World) (k R S : Int) (hk : -9223372036854775808 ≤ k ∧ k ≤ 9223372036854775807) (hR : look fszL k = R) (hw : IntKind.i64.wrap (R - S) = R - S) (hS : ∀ W, Calls Tryd.prog 101 #[.int .i64 k] W fun e w' => e = .returned (.int .i64 S) ∧ w' = W)
    (hd : (fsD.all fun p => hasDep ops p.1 p.2) = true)
    (hop : ∃ o, ops[17]? = some o ∧ o.guard = none ∧ o.op = .move (.tmp 3) ∧ o.dst = some 4) (l : Array Bool) (a : Act) (w' : World) (h : FsI w k R S l a w') (hr : 17 ∈ Region.ready .any ops l) : wpOp Tryd.prog ops Q 17 (fun a' w'' => FsI w k R S (l.setIfInBounds 17 true) a' w'') a w' := by
  obtain ⟨o, ho, hg, hop, hdst⟩ := hop
  obtain ⟨t2, t3, t4, t5, t6, t7, t8, t9, rfl, hsz, h0, h0n, h17, h18, h19, h20, h21, h22, h23⟩ := h
  have hun : l.getD 17 true = false := (mem_ready.1 hr).1
  have hsz2 : 17 < l.size := by omega
  have hunf : l.getD 17 false = false := by simpa [hsz2] using hun
  refine wpOp_of ho hg ?_
  unfold Oper.wp
  simp only [execOp, hop]
  show FsI _ _ _ _ _ _ _
  refine ⟨t2, t3, t3, t5, t6, t7, t8, t9, ?_, by simpa using hsz, ?_, ?_, ?_, fun hh => h18 (by rw [gs l 17 18 hsz2] at hh; simpa using hh), fun hh => h19 (by rw [gs l 17 19 hsz2] at hh; simpa using hh), fun hh => h20 (by rw [gs l 17 20 hsz2] at hh; simpa using hh), fun hh => h21 (by rw [gs l 17 21 hsz2] at hh; simpa using hh), fun hh => h22 (by rw [gs l 17 22 hsz2] at hh; simpa using hh), fun hh => h23 (by rw [gs l 17 23 hsz2] at hh; simpa using hh)⟩
  · rw [hdst]; rfl
  · exact fun hh => by
      obtain ⟨b, L, e, hm, hp⟩ := h0 (by rw [gs l 17 0 hsz2] at hh; simpa using hh)
      exact ⟨b, L, e, hm, by rw [lit_far l 17 fsP (by decide)]; exact hp⟩
  · exact fun hh => by
      have := h0n (by rw [gs l 17 0 hsz2] at hh; simpa using hh)
      exact ⟨this.1, by rw [lit_far l 17 fsP (by decide)]; exact this.2⟩
  · exact fun hh => ⟨rfl, getD_set_true (dep_of (List.all_eq_true.1 hd (17, 0) (by decide)) hr), fun p hp => getD_set_true (by
      simp only [fsP, List.mem_cons, List.not_mem_nil, or_false] at hp
      rcases hp with rfl | rfl | rfl | rfl | rfl | rfl | rfl | rfl | rfl | rfl | rfl | rfl | rfl | rfl | rfl | rfl
      · exact (dep_of (List.all_eq_true.1 hd (17, 1) (by decide)) hr)
      · exact (dep_of (List.all_eq_true.1 hd (17, 2) (by decide)) hr)
      · exact (dep_of (List.all_eq_true.1 hd (17, 3) (by decide)) hr)
      · exact (dep_of (List.all_eq_true.1 hd (17, 4) (by decide)) hr)
      · exact (dep_of (List.all_eq_true.1 hd (17, 5) (by decide)) hr)
      · exact (dep_of (List.all_eq_true.1 hd (17, 6) (by decide)) hr)
      · exact (dep_of (List.all_eq_true.1 hd (17, 7) (by decide)) hr)
      · exact (dep_of (List.all_eq_true.1 hd (17, 8) (by decide)) hr)
      · exact (dep_of (List.all_eq_true.1 hd (17, 9) (by decide)) hr)
      · exact (dep_of (List.all_eq_true.1 hd (17, 10) (by decide)) hr)
      · exact (dep_of (List.all_eq_true.1 hd (17, 11) (by decide)) hr)
      · exact (dep_of (List.all_eq_true.1 hd (17, 12) (by decide)) hr)
      · exact (dep_of (List.all_eq_true.1 hd (17, 13) (by decide)) hr)
      · exact (dep_of (List.all_eq_true.1 hd (17, 14) (by decide)) hr)
      · exact (dep_of (List.all_eq_true.1 hd (17, 15) (by decide)) hr)
      · exact (dep_of (List.all_eq_true.1 hd (17, 16) (by decide)) hr))⟩
theorem fs_step23 (ops : Array Oper) (Q : Exit → Act → World → Prop) (w : World) (k R S : Int) (hk : -9223372036854775808 ≤ k ∧ k ≤ 9223372036854775807) (hR : look fszL k = R) (hw : IntKind.i64.wrap (R - S) = R - S) (hS : ∀ W, Calls Tryd.prog 101 #[.int .i64 k] W fun e w' => e = .returned (.int .i64 S) ∧ w' = W)
    (hd : (fsD.all fun p => hasDep ops p.1 p.2) = true)
    (hop : ∃ o, ops[23]? = some o ∧ o.guard = none ∧ o.op = .assign (.tmp 9) ∧ o.dst = some 2) (l : Array Bool) (a : Act) (w' : World) (h : FsI w k R S l a w') (hr : 23 ∈ Region.ready .any ops l) : wpOp Tryd.prog ops Q 23 (fun a' w'' => FsI w k R S (l.setIfInBounds 23 true) a' w'') a w' := by
  obtain ⟨o, ho, hg, hop, hdst⟩ := hop
  obtain ⟨t2, t3, t4, t5, t6, t7, t8, t9, rfl, hsz, h0, h0n, h17, h18, h19, h20, h21, h22, h23⟩ := h
  have hun : l.getD 23 true = false := (mem_ready.1 hr).1
  have hsz2 : 23 < l.size := by omega
  have hunf : l.getD 23 false = false := by simpa [hsz2] using hun
  refine wpOp_of ho hg ?_
  obtain rfl := h22 (dep_of (List.all_eq_true.1 hd (23, 22) (by decide)) hr)
  unfold Oper.wp
  simp only [execOp, hop]
  show FsI _ _ _ _ _ _ _
  refine ⟨.int .i64 (R - S), t3, t4, t5, t6, t7, t8, .int .i64 (R - S), ?_, by simpa using hsz, ?_, ?_, ?_, fun hh => h18 (by rw [gs l 23 18 hsz2] at hh; simpa using hh), fun hh => h19 (by rw [gs l 23 19 hsz2] at hh; simpa using hh), fun hh => h20 (by rw [gs l 23 20 hsz2] at hh; simpa using hh), fun hh => h21 (by rw [gs l 23 21 hsz2] at hh; simpa using hh), fun hh => h22 (by rw [gs l 23 22 hsz2] at hh; simpa using hh), fun _ => rfl⟩
  · rw [hdst]; rfl
  · exact fun hh => by
      obtain ⟨b, L, e, hm, hp⟩ := h0 (by rw [gs l 23 0 hsz2] at hh; simpa using hh)
      exact ⟨b, L, e, hm, by rw [lit_far l 23 fsP (by decide)]; exact hp⟩
  · exact fun hh => by
      have := h0n (by rw [gs l 23 0 hsz2] at hh; simpa using hh)
      exact ⟨this.1, by rw [lit_far l 23 fsP (by decide)]; exact this.2⟩
  · exact fun hh => by
      have := h17 (by rw [gs l 23 17 hsz2] at hh; simpa using hh)
      exact ⟨this.1, getD_set_true this.2.1, fun p hp => getD_set_true (this.2.2 p hp)⟩
theorem fs_step22 (ops : Array Oper) (Q : Exit → Act → World → Prop) (w : World) (k R S : Int) (hk : -9223372036854775808 ≤ k ∧ k ≤ 9223372036854775807) (hR : look fszL k = R) (hw : IntKind.i64.wrap (R - S) = R - S) (hS : ∀ W, Calls Tryd.prog 101 #[.int .i64 k] W fun e w' => e = .returned (.int .i64 S) ∧ w' = W)
    (hd : (fsD.all fun p => hasDep ops p.1 p.2) = true)
    (hop : ∃ o, ops[22]? = some o ∧ o.guard = none ∧ o.op = .binOp .sub 3 (.tmp 6) (.tmp 8) 3 ∧ o.dst = some 9) (l : Array Bool) (a : Act) (w' : World) (h : FsI w k R S l a w') (hr : 22 ∈ Region.ready .any ops l) : wpOp Tryd.prog ops Q 22 (fun a' w'' => FsI w k R S (l.setIfInBounds 22 true) a' w'') a w' := by
  obtain ⟨o, ho, hg, hop, hdst⟩ := hop
  obtain ⟨t2, t3, t4, t5, t6, t7, t8, t9, rfl, hsz, h0, h0n, h17, h18, h19, h20, h21, h22, h23⟩ := h
  have hun : l.getD 22 true = false := (mem_ready.1 hr).1
  have hsz2 : 22 < l.size := by omega
  have hunf : l.getD 22 false = false := by simpa [hsz2] using hun
  refine wpOp_of ho hg ?_
  obtain rfl := h19 (dep_of (List.all_eq_true.1 hd (22, 19) (by decide)) hr)
  obtain rfl := h21 (dep_of (List.all_eq_true.1 hd (22, 21) (by decide)) hr)
  unfold Oper.wp
  simp only [execOp, hop]
  show FsI _ _ _ _ _ _ _
  refine ⟨t2, t3, t4, t5, .int .i64 R, t7, .int .i64 S, .int .i64 (R - S), ?_, by simpa using hsz, ?_, ?_, ?_, fun hh => h18 (by rw [gs l 22 18 hsz2] at hh; simpa using hh), fun hh => h19 (by rw [gs l 22 19 hsz2] at hh; simpa using hh), fun hh => h20 (by rw [gs l 22 20 hsz2] at hh; simpa using hh), fun hh => h21 (by rw [gs l 22 21 hsz2] at hh; simpa using hh), fun _ => rfl, fun hh => h23 (by rw [gs l 22 23 hsz2] at hh; simpa using hh)⟩
  · rw [hdst, hw]; rfl
  · exact fun hh => by
      obtain ⟨b, L, e, hm, hp⟩ := h0 (by rw [gs l 22 0 hsz2] at hh; simpa using hh)
      exact ⟨b, L, e, hm, by rw [lit_far l 22 fsP (by decide)]; exact hp⟩
  · exact fun hh => by
      have := h0n (by rw [gs l 22 0 hsz2] at hh; simpa using hh)
      exact ⟨this.1, by rw [lit_far l 22 fsP (by decide)]; exact this.2⟩
  · exact fun hh => by
      have := h17 (by rw [gs l 22 17 hsz2] at hh; simpa using hh)
      exact ⟨this.1, getD_set_true this.2.1, fun p hp => getD_set_true (this.2.2 p hp)⟩
theorem fs_step0 (ops : Array Oper) (Q : Exit → Act → World → Prop) (w : World) (k R S : Int) (hk : -9223372036854775808 ≤ k ∧ k ≤ 9223372036854775807) (hR : look fszL k = R) (hw : IntKind.i64.wrap (R - S) = R - S) (hS : ∀ W, Calls Tryd.prog 101 #[.int .i64 k] W fun e w' => e = .returned (.int .i64 S) ∧ w' = W)
    (hd : (fsD.all fun p => hasDep ops p.1 p.2) = true)
    (hop : ∃ o, ops[0]? = some o ∧ o.guard = none ∧ o.op = .makeMap 158 none ∧ o.dst = some 3) (l : Array Bool) (a : Act) (w' : World) (h : FsI w k R S l a w') (hr : 0 ∈ Region.ready .any ops l) : wpOp Tryd.prog ops Q 0 (fun a' w'' => FsI w k R S (l.setIfInBounds 0 true) a' w'') a w' := by
  obtain ⟨o, ho, hg, hop, hdst⟩ := hop
  obtain ⟨t2, t3, t4, t5, t6, t7, t8, t9, rfl, hsz, h0, h0n, h17, h18, h19, h20, h21, h22, h23⟩ := h
  have hun : l.getD 0 true = false := (mem_ready.1 hr).1
  have hsz2 : 0 < l.size := by omega
  have hunf : l.getD 0 false = false := by simpa [hsz2] using hun
  refine wpOp_of ho hg ?_
  obtain ⟨hbel, hlit⟩ := h0n hunf
  refine oper_make _ hop hbel hbel.size ?_
  intro w2 b hm
  refine ⟨t2, .map (some b), t4, t5, t6, t7, t8, t9, ?_, by simpa using hsz, ?_, ?_, ?_, fun hh => h18 (by rw [gs l 0 18 hsz2] at hh; simpa using hh), fun hh => h19 (by rw [gs l 0 19 hsz2] at hh; simpa using hh), fun hh => h20 (by rw [gs l 0 20 hsz2] at hh; simpa using hh), fun hh => h21 (by rw [gs l 0 21 hsz2] at hh; simpa using hh), fun hh => h22 (by rw [gs l 0 22 hsz2] at hh; simpa using hh), fun hh => h23 (by rw [gs l 0 23 hsz2] at hh; simpa using hh)⟩
  · rw [hdst]; rfl
  · exact fun hh => ⟨b, [], rfl, hm, by rw [lit_far l 0 fsP (by decide), hlit]⟩
  · exact fun hh => absurd hh (by rw [gs l 0 0 hsz2]; simp)
  · exact fun hh => absurd (h17 (by rw [gs l 0 17 hsz2] at hh; simpa using hh)).2.1 (by rw [hunf]; simp)
theorem fs_step1 (ops : Array Oper) (Q : Exit → Act → World → Prop) (w : World) (k R S : Int) (hk : -9223372036854775808 ≤ k ∧ k ≤ 9223372036854775807) (hR : look fszL k = R) (hw : IntKind.i64.wrap (R - S) = R - S) (hS : ∀ W, Calls Tryd.prog 101 #[.int .i64 k] W fun e w' => e = .returned (.int .i64 S) ∧ w' = W)
    (hd : (fsD.all fun p => hasDep ops p.1 p.2) = true)
    (hop : ∃ o, ops[1]? = some o ∧ o.guard = none ∧ o.op = .insert 158 (.tmp 3) (.const (.int .i64 2)) (.const (.int .i64 1)) ∧ o.dst = none) (l : Array Bool) (a : Act) (w' : World) (h : FsI w k R S l a w') (hr : 1 ∈ Region.ready .any ops l) : wpOp Tryd.prog ops Q 1 (fun a' w'' => FsI w k R S (l.setIfInBounds 1 true) a' w'') a w' := by
  obtain ⟨o, ho, hg, hop, hdst⟩ := hop
  obtain ⟨t2, t3, t4, t5, t6, t7, t8, t9, rfl, hsz, h0, h0n, h17, h18, h19, h20, h21, h22, h23⟩ := h
  have hun : l.getD 1 true = false := (mem_ready.1 hr).1
  have hsz2 : 1 < l.size := by omega
  have hunf : l.getD 1 false = false := by simpa [hsz2] using hun
  refine wpOp_of ho hg ?_
  have hl0 := (dep_of (List.all_eq_true.1 hd (1, 0) (by decide)) hr)
  obtain ⟨b, L, rfl, hm, hp⟩ := h0 hl0
  have hlen : L.length ≤ 16 := by
    rw [hp.length_eq]
    unfold lit
    rw [List.length_map]
    exact Nat.le_trans (List.length_filter_le _ _) (by decide)
  refine oper_insert _ _ _ _ hop Tryd.underlying158 2 1 rfl rfl rfl hm (by omega) (by omega) (by omega) (by omega) (by omega) ?_
  intro w2 hm2
  refine ⟨t2, .map (some b), t4, t5, t6, t7, t8, t9, ?_, by simpa using hsz, ?_, ?_, ?_, fun hh => h18 (by rw [gs l 1 18 hsz2] at hh; simpa using hh), fun hh => h19 (by rw [gs l 1 19 hsz2] at hh; simpa using hh), fun hh => h20 (by rw [gs l 1 20 hsz2] at hh; simpa using hh), fun hh => h21 (by rw [gs l 1 21 hsz2] at hh; simpa using hh), fun hh => h22 (by rw [gs l 1 22 hsz2] at hh; simpa using hh), fun hh => h23 (by rw [gs l 1 23 hsz2] at hh; simpa using hh)⟩
  · rw [hdst]; rfl
  · exact fun hh => ⟨b, _, rfl, hm2, (hp.cons _).trans (lit_set l 1 (2, 1) hun fsP fsP_nodup (by decide))⟩
  · exact fun hh => absurd (getD_set_true hl0) (by rw [hh]; simp)
  · exact fun hh => absurd ((h17 (by rw [gs l 1 17 hsz2] at hh; simpa using hh)).2.2 (1, 2, 1) (by decide)) (by rw [hunf]; simp)
theorem fs_step2 (ops : Array Oper) (Q : Exit → Act → World → Prop) (w : World) (k R S : Int) (hk : -9223372036854775808 ≤ k ∧ k ≤ 9223372036854775807) (hR : look fszL k = R) (hw : IntKind.i64.wrap (R - S) = R - S) (hS : ∀ W, Calls Tryd.prog 101 #[.int .i64 k] W fun e w' => e = .returned (.int .i64 S) ∧ w' = W)
    (hd : (fsD.all fun p => hasDep ops p.1 p.2) = true)
    (hop : ∃ o, ops[2]? = some o ∧ o.guard = none ∧ o.op = .insert 158 (.tmp 3) (.const (.int .i64 6)) (.const (.int .i64 1)) ∧ o.dst = none) (l : Array Bool) (a : Act) (w' : World) (h : FsI w k R S l a w') (hr : 2 ∈ Region.ready .any ops l) : wpOp Tryd.prog ops Q 2 (fun a' w'' => FsI w k R S (l.setIfInBounds 2 true) a' w'') a w' := by
  obtain ⟨o, ho, hg, hop, hdst⟩ := hop
  obtain ⟨t2, t3, t4, t5, t6, t7, t8, t9, rfl, hsz, h0, h0n, h17, h18, h19, h20, h21, h22, h23⟩ := h
  have hun : l.getD 2 true = false := (mem_ready.1 hr).1
  have hsz2 : 2 < l.size := by omega
  have hunf : l.getD 2 false = false := by simpa [hsz2] using hun
  refine wpOp_of ho hg ?_
  have hl0 := (dep_of (List.all_eq_true.1 hd (2, 0) (by decide)) hr)
  obtain ⟨b, L, rfl, hm, hp⟩ := h0 hl0
  have hlen : L.length ≤ 16 := by
    rw [hp.length_eq]
    unfold lit
    rw [List.length_map]
    exact Nat.le_trans (List.length_filter_le _ _) (by decide)
  refine oper_insert _ _ _ _ hop Tryd.underlying158 6 1 rfl rfl rfl hm (by omega) (by omega) (by omega) (by omega) (by omega) ?_
  intro w2 hm2
  refine ⟨t2, .map (some b), t4, t5, t6, t7, t8, t9, ?_, by simpa using hsz, ?_, ?_, ?_, fun hh => h18 (by rw [gs l 2 18 hsz2] at hh; simpa using hh), fun hh => h19 (by rw [gs l 2 19 hsz2] at hh; simpa using hh), fun hh => h20 (by rw [gs l 2 20 hsz2] at hh; simpa using hh), fun hh => h21 (by rw [gs l 2 21 hsz2] at hh; simpa using hh), fun hh => h22 (by rw [gs l 2 22 hsz2] at hh; simpa using hh), fun hh => h23 (by rw [gs l 2 23 hsz2] at hh; simpa using hh)⟩
  · rw [hdst]; rfl
  · exact fun hh => ⟨b, _, rfl, hm2, (hp.cons _).trans (lit_set l 2 (6, 1) hun fsP fsP_nodup (by decide))⟩
  · exact fun hh => absurd (getD_set_true hl0) (by rw [hh]; simp)
  · exact fun hh => absurd ((h17 (by rw [gs l 2 17 hsz2] at hh; simpa using hh)).2.2 (2, 6, 1) (by decide)) (by rw [hunf]; simp)
theorem fs_step3 (ops : Array Oper) (Q : Exit → Act → World → Prop) (w : World) (k R S : Int) (hk : -9223372036854775808 ≤ k ∧ k ≤ 9223372036854775807) (hR : look fszL k = R) (hw : IntKind.i64.wrap (R - S) = R - S) (hS : ∀ W, Calls Tryd.prog 101 #[.int .i64 k] W fun e w' => e = .returned (.int .i64 S) ∧ w' = W)
    (hd : (fsD.all fun p => hasDep ops p.1 p.2) = true)
    (hop : ∃ o, ops[3]? = some o ∧ o.guard = none ∧ o.op = .insert 158 (.tmp 3) (.const (.int .i64 3)) (.const (.int .i64 2)) ∧ o.dst = none) (l : Array Bool) (a : Act) (w' : World) (h : FsI w k R S l a w') (hr : 3 ∈ Region.ready .any ops l) : wpOp Tryd.prog ops Q 3 (fun a' w'' => FsI w k R S (l.setIfInBounds 3 true) a' w'') a w' := by
  obtain ⟨o, ho, hg, hop, hdst⟩ := hop
  obtain ⟨t2, t3, t4, t5, t6, t7, t8, t9, rfl, hsz, h0, h0n, h17, h18, h19, h20, h21, h22, h23⟩ := h
  have hun : l.getD 3 true = false := (mem_ready.1 hr).1
  have hsz2 : 3 < l.size := by omega
  have hunf : l.getD 3 false = false := by simpa [hsz2] using hun
  refine wpOp_of ho hg ?_
  have hl0 := (dep_of (List.all_eq_true.1 hd (3, 0) (by decide)) hr)
  obtain ⟨b, L, rfl, hm, hp⟩ := h0 hl0
  have hlen : L.length ≤ 16 := by
    rw [hp.length_eq]
    unfold lit
    rw [List.length_map]
    exact Nat.le_trans (List.length_filter_le _ _) (by decide)
  refine oper_insert _ _ _ _ hop Tryd.underlying158 3 2 rfl rfl rfl hm (by omega) (by omega) (by omega) (by omega) (by omega) ?_
  intro w2 hm2
  refine ⟨t2, .map (some b), t4, t5, t6, t7, t8, t9, ?_, by simpa using hsz, ?_, ?_, ?_, fun hh => h18 (by rw [gs l 3 18 hsz2] at hh; simpa using hh), fun hh => h19 (by rw [gs l 3 19 hsz2] at hh; simpa using hh), fun hh => h20 (by rw [gs l 3 20 hsz2] at hh; simpa using hh), fun hh => h21 (by rw [gs l 3 21 hsz2] at hh; simpa using hh), fun hh => h22 (by rw [gs l 3 22 hsz2] at hh; simpa using hh), fun hh => h23 (by rw [gs l 3 23 hsz2] at hh; simpa using hh)⟩
  · rw [hdst]; rfl
  · exact fun hh => ⟨b, _, rfl, hm2, (hp.cons _).trans (lit_set l 3 (3, 2) hun fsP fsP_nodup (by decide))⟩
  · exact fun hh => absurd (getD_set_true hl0) (by rw [hh]; simp)
  · exact fun hh => absurd ((h17 (by rw [gs l 3 17 hsz2] at hh; simpa using hh)).2.2 (3, 3, 2) (by decide)) (by rw [hunf]; simp)
theorem fs_step4 (ops : Array Oper) (Q : Exit → Act → World → Prop) (w : World) (k R S : Int) (hk : -9223372036854775808 ≤ k ∧ k ≤ 9223372036854775807) (hR : look fszL k = R) (hw : IntKind.i64.wrap (R - S) = R - S) (hS : ∀ W, Calls Tryd.prog 101 #[.int .i64 k] W fun e w' => e = .returned (.int .i64 S) ∧ w' = W)
    (hd : (fsD.all fun p => hasDep ops p.1 p.2) = true)
    (hop : ∃ o, ops[4]? = some o ∧ o.guard = none ∧ o.op = .insert 158 (.tmp 3) (.const (.int .i64 7)) (.const (.int .i64 2)) ∧ o.dst = none) (l : Array Bool) (a : Act) (w' : World) (h : FsI w k R S l a w') (hr : 4 ∈ Region.ready .any ops l) : wpOp Tryd.prog ops Q 4 (fun a' w'' => FsI w k R S (l.setIfInBounds 4 true) a' w'') a w' := by
  obtain ⟨o, ho, hg, hop, hdst⟩ := hop
  obtain ⟨t2, t3, t4, t5, t6, t7, t8, t9, rfl, hsz, h0, h0n, h17, h18, h19, h20, h21, h22, h23⟩ := h
  have hun : l.getD 4 true = false := (mem_ready.1 hr).1
  have hsz2 : 4 < l.size := by omega
  have hunf : l.getD 4 false = false := by simpa [hsz2] using hun
  refine wpOp_of ho hg ?_
  have hl0 := (dep_of (List.all_eq_true.1 hd (4, 0) (by decide)) hr)
  obtain ⟨b, L, rfl, hm, hp⟩ := h0 hl0
  have hlen : L.length ≤ 16 := by
    rw [hp.length_eq]
    unfold lit
    rw [List.length_map]
    exact Nat.le_trans (List.length_filter_le _ _) (by decide)
  refine oper_insert _ _ _ _ hop Tryd.underlying158 7 2 rfl rfl rfl hm (by omega) (by omega) (by omega) (by omega) (by omega) ?_
  intro w2 hm2
  refine ⟨t2, .map (some b), t4, t5, t6, t7, t8, t9, ?_, by simpa using hsz, ?_, ?_, ?_, fun hh => h18 (by rw [gs l 4 18 hsz2] at hh; simpa using hh), fun hh => h19 (by rw [gs l 4 19 hsz2] at hh; simpa using hh), fun hh => h20 (by rw [gs l 4 20 hsz2] at hh; simpa using hh), fun hh => h21 (by rw [gs l 4 21 hsz2] at hh; simpa using hh), fun hh => h22 (by rw [gs l 4 22 hsz2] at hh; simpa using hh), fun hh => h23 (by rw [gs l 4 23 hsz2] at hh; simpa using hh)⟩
  · rw [hdst]; rfl
  · exact fun hh => ⟨b, _, rfl, hm2, (hp.cons _).trans (lit_set l 4 (7, 2) hun fsP fsP_nodup (by decide))⟩
  · exact fun hh => absurd (getD_set_true hl0) (by rw [hh]; simp)
  · exact fun hh => absurd ((h17 (by rw [gs l 4 17 hsz2] at hh; simpa using hh)).2.2 (4, 7, 2) (by decide)) (by rw [hunf]; simp)
theorem fs_step5 (ops : Array Oper) (Q : Exit → Act → World → Prop) (w : World) (k R S : Int) (hk : -9223372036854775808 ≤ k ∧ k ≤ 9223372036854775807) (hR : look fszL k = R) (hw : IntKind.i64.wrap (R - S) = R - S) (hS : ∀ W, Calls Tryd.prog 101 #[.int .i64 k] W fun e w' => e = .returned (.int .i64 S) ∧ w' = W)
    (hd : (fsD.all fun p => hasDep ops p.1 p.2) = true)
    (hop : ∃ o, ops[5]? = some o ∧ o.guard = none ∧ o.op = .insert 158 (.tmp 3) (.const (.int .i64 4)) (.const (.int .i64 4)) ∧ o.dst = none) (l : Array Bool) (a : Act) (w' : World) (h : FsI w k R S l a w') (hr : 5 ∈ Region.ready .any ops l) : wpOp Tryd.prog ops Q 5 (fun a' w'' => FsI w k R S (l.setIfInBounds 5 true) a' w'') a w' := by
  obtain ⟨o, ho, hg, hop, hdst⟩ := hop
  obtain ⟨t2, t3, t4, t5, t6, t7, t8, t9, rfl, hsz, h0, h0n, h17, h18, h19, h20, h21, h22, h23⟩ := h
  have hun : l.getD 5 true = false := (mem_ready.1 hr).1
  have hsz2 : 5 < l.size := by omega
  have hunf : l.getD 5 false = false := by simpa [hsz2] using hun
  refine wpOp_of ho hg ?_
  have hl0 := (dep_of (List.all_eq_true.1 hd (5, 0) (by decide)) hr)
  obtain ⟨b, L, rfl, hm, hp⟩ := h0 hl0
  have hlen : L.length ≤ 16 := by
    rw [hp.length_eq]
    unfold lit
    rw [List.length_map]
    exact Nat.le_trans (List.length_filter_le _ _) (by decide)
  refine oper_insert _ _ _ _ hop Tryd.underlying158 4 4 rfl rfl rfl hm (by omega) (by omega) (by omega) (by omega) (by omega) ?_
  intro w2 hm2
  refine ⟨t2, .map (some b), t4, t5, t6, t7, t8, t9, ?_, by simpa using hsz, ?_, ?_, ?_, fun hh => h18 (by rw [gs l 5 18 hsz2] at hh; simpa using hh), fun hh => h19 (by rw [gs l 5 19 hsz2] at hh; simpa using hh), fun hh => h20 (by rw [gs l 5 20 hsz2] at hh; simpa using hh), fun hh => h21 (by rw [gs l 5 21 hsz2] at hh; simpa using hh), fun hh => h22 (by rw [gs l 5 22 hsz2] at hh; simpa using hh), fun hh => h23 (by rw [gs l 5 23 hsz2] at hh; simpa using hh)⟩
  · rw [hdst]; rfl
  · exact fun hh => ⟨b, _, rfl, hm2, (hp.cons _).trans (lit_set l 5 (4, 4) hun fsP fsP_nodup (by decide))⟩
  · exact fun hh => absurd (getD_set_true hl0) (by rw [hh]; simp)
  · exact fun hh => absurd ((h17 (by rw [gs l 5 17 hsz2] at hh; simpa using hh)).2.2 (5, 4, 4) (by decide)) (by rw [hunf]; simp)
theorem fs_step6 (ops : Array Oper) (Q : Exit → Act → World → Prop) (w : World) (k R S : Int) (hk : -9223372036854775808 ≤ k ∧ k ≤ 9223372036854775807) (hR : look fszL k = R) (hw : IntKind.i64.wrap (R - S) = R - S) (hS : ∀ W, Calls Tryd.prog 101 #[.int .i64 k] W fun e w' => e = .returned (.int .i64 S) ∧ w' = W)
    (hd : (fsD.all fun p => hasDep ops p.1 p.2) = true)
    (hop : ∃ o, ops[6]? = some o ∧ o.guard = none ∧ o.op = .insert 158 (.tmp 3) (.const (.int .i64 8)) (.const (.int .i64 4)) ∧ o.dst = none) (l : Array Bool) (a : Act) (w' : World) (h : FsI w k R S l a w') (hr : 6 ∈ Region.ready .any ops l) : wpOp Tryd.prog ops Q 6 (fun a' w'' => FsI w k R S (l.setIfInBounds 6 true) a' w'') a w' := by
  obtain ⟨o, ho, hg, hop, hdst⟩ := hop
  obtain ⟨t2, t3, t4, t5, t6, t7, t8, t9, rfl, hsz, h0, h0n, h17, h18, h19, h20, h21, h22, h23⟩ := h
  have hun : l.getD 6 true = false := (mem_ready.1 hr).1
  have hsz2 : 6 < l.size := by omega
  have hunf : l.getD 6 false = false := by simpa [hsz2] using hun
  refine wpOp_of ho hg ?_
  have hl0 := (dep_of (List.all_eq_true.1 hd (6, 0) (by decide)) hr)
  obtain ⟨b, L, rfl, hm, hp⟩ := h0 hl0
  have hlen : L.length ≤ 16 := by
    rw [hp.length_eq]
    unfold lit
    rw [List.length_map]
    exact Nat.le_trans (List.length_filter_le _ _) (by decide)
  refine oper_insert _ _ _ _ hop Tryd.underlying158 8 4 rfl rfl rfl hm (by omega) (by omega) (by omega) (by omega) (by omega) ?_
  intro w2 hm2
  refine ⟨t2, .map (some b), t4, t5, t6, t7, t8, t9, ?_, by simpa using hsz, ?_, ?_, ?_, fun hh => h18 (by rw [gs l 6 18 hsz2] at hh; simpa using hh), fun hh => h19 (by rw [gs l 6 19 hsz2] at hh; simpa using hh), fun hh => h20 (by rw [gs l 6 20 hsz2] at hh; simpa using hh), fun hh => h21 (by rw [gs l 6 21 hsz2] at hh; simpa using hh), fun hh => h22 (by rw [gs l 6 22 hsz2] at hh; simpa using hh), fun hh => h23 (by rw [gs l 6 23 hsz2] at hh; simpa using hh)⟩
  · rw [hdst]; rfl
  · exact fun hh => ⟨b, _, rfl, hm2, (hp.cons _).trans (lit_set l 6 (8, 4) hun fsP fsP_nodup (by decide))⟩
  · exact fun hh => absurd (getD_set_true hl0) (by rw [hh]; simp)
  · exact fun hh => absurd ((h17 (by rw [gs l 6 17 hsz2] at hh; simpa using hh)).2.2 (6, 8, 4) (by decide)) (by rw [hunf]; simp)
theorem fs_step7 (ops : Array Oper) (Q : Exit → Act → World → Prop) (w : World) (k R S : Int) (hk : -9223372036854775808 ≤ k ∧ k ≤ 9223372036854775807) (hR : look fszL k = R) (hw : IntKind.i64.wrap (R - S) = R - S) (hS : ∀ W, Calls Tryd.prog 101 #[.int .i64 k] W fun e w' => e = .returned (.int .i64 S) ∧ w' = W)
    (hd : (fsD.all fun p => hasDep ops p.1 p.2) = true)
    (hop : ∃ o, ops[7]? = some o ∧ o.guard = none ∧ o.op = .insert 158 (.tmp 3) (.const (.int .i64 10)) (.const (.int .i64 4)) ∧ o.dst = none) (l : Array Bool) (a : Act) (w' : World) (h : FsI w k R S l a w') (hr : 7 ∈ Region.ready .any ops l) : wpOp Tryd.prog ops Q 7 (fun a' w'' => FsI w k R S (l.setIfInBounds 7 true) a' w'') a w' := by
  obtain ⟨o, ho, hg, hop, hdst⟩ := hop
  obtain ⟨t2, t3, t4, t5, t6, t7, t8, t9, rfl, hsz, h0, h0n, h17, h18, h19, h20, h21, h22, h23⟩ := h
  have hun : l.getD 7 true = false := (mem_ready.1 hr).1
  have hsz2 : 7 < l.size := by omega
  have hunf : l.getD 7 false = false := by simpa [hsz2] using hun
  refine wpOp_of ho hg ?_
  have hl0 := (dep_of (List.all_eq_true.1 hd (7, 0) (by decide)) hr)
  obtain ⟨b, L, rfl, hm, hp⟩ := h0 hl0
  have hlen : L.length ≤ 16 := by
    rw [hp.length_eq]
    unfold lit
    rw [List.length_map]
    exact Nat.le_trans (List.length_filter_le _ _) (by decide)
  refine oper_insert _ _ _ _ hop Tryd.underlying158 10 4 rfl rfl rfl hm (by omega) (by omega) (by omega) (by omega) (by omega) ?_
  intro w2 hm2
  refine ⟨t2, .map (some b), t4, t5, t6, t7, t8, t9, ?_, by simpa using hsz, ?_, ?_, ?_, fun hh => h18 (by rw [gs l 7 18 hsz2] at hh; simpa using hh), fun hh => h19 (by rw [gs l 7 19 hsz2] at hh; simpa using hh), fun hh => h20 (by rw [gs l 7 20 hsz2] at hh; simpa using hh), fun hh => h21 (by rw [gs l 7 21 hsz2] at hh; simpa using hh), fun hh => h22 (by rw [gs l 7 22 hsz2] at hh; simpa using hh), fun hh => h23 (by rw [gs l 7 23 hsz2] at hh; simpa using hh)⟩
  · rw [hdst]; rfl
  · exact fun hh => ⟨b, _, rfl, hm2, (hp.cons _).trans (lit_set l 7 (10, 4) hun fsP fsP_nodup (by decide))⟩
  · exact fun hh => absurd (getD_set_true hl0) (by rw [hh]; simp)
  · exact fun hh => absurd ((h17 (by rw [gs l 7 17 hsz2] at hh; simpa using hh)).2.2 (7, 10, 4) (by decide)) (by rw [hunf]; simp)
theorem fs_step8 (ops : Array Oper) (Q : Exit → Act → World → Prop) (w : World) (k R S : Int) (hk : -9223372036854775808 ≤ k ∧ k ≤ 9223372036854775807) (hR : look fszL k = R) (hw : IntKind.i64.wrap (R - S) = R - S) (hS : ∀ W, Calls Tryd.prog 101 #[.int .i64 k] W fun e w' => e = .returned (.int .i64 S) ∧ w' = W)
    (hd : (fsD.all fun p => hasDep ops p.1 p.2) = true)
    (hop : ∃ o, ops[8]? = some o ∧ o.guard = none ∧ o.op = .insert 158 (.tmp 3) (.const (.int .i64 12)) (.const (.int .i64 4)) ∧ o.dst = none) (l : Array Bool) (a : Act) (w' : World) (h : FsI w k R S l a w') (hr : 8 ∈ Region.ready .any ops l) : wpOp Tryd.prog ops Q 8 (fun a' w'' => FsI w k R S (l.setIfInBounds 8 true) a' w'') a w' := by
  obtain ⟨o, ho, hg, hop, hdst⟩ := hop
  obtain ⟨t2, t3, t4, t5, t6, t7, t8, t9, rfl, hsz, h0, h0n, h17, h18, h19, h20, h21, h22, h23⟩ := h
  have hun : l.getD 8 true = false := (mem_ready.1 hr).1
  have hsz2 : 8 < l.size := by omega
  have hunf : l.getD 8 false = false := by simpa [hsz2] using hun
  refine wpOp_of ho hg ?_
  have hl0 := (dep_of (List.all_eq_true.1 hd (8, 0) (by decide)) hr)
  obtain ⟨b, L, rfl, hm, hp⟩ := h0 hl0
  have hlen : L.length ≤ 16 := by
    rw [hp.length_eq]
    unfold lit
    rw [List.length_map]
    exact Nat.le_trans (List.length_filter_le _ _) (by decide)
  refine oper_insert _ _ _ _ hop Tryd.underlying158 12 4 rfl rfl rfl hm (by omega) (by omega) (by omega) (by omega) (by omega) ?_
  intro w2 hm2
  refine ⟨t2, .map (some b), t4, t5, t6, t7, t8, t9, ?_, by simpa using hsz, ?_, ?_, ?_, fun hh => h18 (by rw [gs l 8 18 hsz2] at hh; simpa using hh), fun hh => h19 (by rw [gs l 8 19 hsz2] at hh; simpa using hh), fun hh => h20 (by rw [gs l 8 20 hsz2] at hh; simpa using hh), fun hh => h21 (by rw [gs l 8 21 hsz2] at hh; simpa using hh), fun hh => h22 (by rw [gs l 8 22 hsz2] at hh; simpa using hh), fun hh => h23 (by rw [gs l 8 23 hsz2] at hh; simpa using hh)⟩
  · rw [hdst]; rfl
  · exact fun hh => ⟨b, _, rfl, hm2, (hp.cons _).trans (lit_set l 8 (12, 4) hun fsP fsP_nodup (by decide))⟩
  · exact fun hh => absurd (getD_set_true hl0) (by rw [hh]; simp)
  · exact fun hh => absurd ((h17 (by rw [gs l 8 17 hsz2] at hh; simpa using hh)).2.2 (8, 12, 4) (by decide)) (by rw [hunf]; simp)
theorem fs_step9 (ops : Array Oper) (Q : Exit → Act → World → Prop) (w : World) (k R S : Int) (hk : -9223372036854775808 ≤ k ∧ k ≤ 9223372036854775807) (hR : look fszL k = R) (hw : IntKind.i64.wrap (R - S) = R - S) (hS : ∀ W, Calls Tryd.prog 101 #[.int .i64 k] W fun e w' => e = .returned (.int .i64 S) ∧ w' = W)
    (hd : (fsD.all fun p => hasDep ops p.1 p.2) = true)
    (hop : ∃ o, ops[9]? = some o ∧ o.guard = none ∧ o.op = .insert 158 (.tmp 3) (.const (.int .i64 15)) (.const (.int .i64 4)) ∧ o.dst = none) (l : Array Bool) (a : Act) (w' : World) (h : FsI w k R S l a w') (hr : 9 ∈ Region.ready .any ops l) : wpOp Tryd.prog ops Q 9 (fun a' w'' => FsI w k R S (l.setIfInBounds 9 true) a' w'') a w' := by
  obtain ⟨o, ho, hg, hop, hdst⟩ := hop
  obtain ⟨t2, t3, t4, t5, t6, t7, t8, t9, rfl, hsz, h0, h0n, h17, h18, h19, h20, h21, h22, h23⟩ := h
  have hun : l.getD 9 true = false := (mem_ready.1 hr).1
  have hsz2 : 9 < l.size := by omega
  have hunf : l.getD 9 false = false := by simpa [hsz2] using hun
  refine wpOp_of ho hg ?_
  have hl0 := (dep_of (List.all_eq_true.1 hd (9, 0) (by decide)) hr)
  obtain ⟨b, L, rfl, hm, hp⟩ := h0 hl0
  have hlen : L.length ≤ 16 := by
    rw [hp.length_eq]
    unfold lit
    rw [List.length_map]
    exact Nat.le_trans (List.length_filter_le _ _) (by decide)
  refine oper_insert _ _ _ _ hop Tryd.underlying158 15 4 rfl rfl rfl hm (by omega) (by omega) (by omega) (by omega) (by omega) ?_
  intro w2 hm2
  refine ⟨t2, .map (some b), t4, t5, t6, t7, t8, t9, ?_, by simpa using hsz, ?_, ?_, ?_, fun hh => h18 (by rw [gs l 9 18 hsz2] at hh; simpa using hh), fun hh => h19 (by rw [gs l 9 19 hsz2] at hh; simpa using hh), fun hh => h20 (by rw [gs l 9 20 hsz2] at hh; simpa using hh), fun hh => h21 (by rw [gs l 9 21 hsz2] at hh; simpa using hh), fun hh => h22 (by rw [gs l 9 22 hsz2] at hh; simpa using hh), fun hh => h23 (by rw [gs l 9 23 hsz2] at hh; simpa using hh)⟩
  · rw [hdst]; rfl
  · exact fun hh => ⟨b, _, rfl, hm2, (hp.cons _).trans (lit_set l 9 (15, 4) hun fsP fsP_nodup (by decide))⟩
  · exact fun hh => absurd (getD_set_true hl0) (by rw [hh]; simp)
  · exact fun hh => absurd ((h17 (by rw [gs l 9 17 hsz2] at hh; simpa using hh)).2.2 (9, 15, 4) (by decide)) (by rw [hunf]; simp)
theorem fs_step10 (ops : Array Oper) (Q : Exit → Act → World → Prop) (w : World) (k R S : Int) (hk : -9223372036854775808 ≤ k ∧ k ≤ 9223372036854775807) (hR : look fszL k = R) (hw : IntKind.i64.wrap (R - S) = R - S) (hS : ∀ W, Calls Tryd.prog 101 #[.int .i64 k] W fun e w' => e = .returned (.int .i64 S) ∧ w' = W)
    (hd : (fsD.all fun p => hasDep ops p.1 p.2) = true)
    (hop : ∃ o, ops[10]? = some o ∧ o.guard = none ∧ o.op = .insert 158 (.tmp 3) (.const (.int .i64 5)) (.const (.int .i64 8)) ∧ o.dst = none) (l : Array Bool) (a : Act) (w' : World) (h : FsI w k R S l a w') (hr : 10 ∈ Region.ready .any ops l) : wpOp Tryd.prog ops Q 10 (fun a' w'' => FsI w k R S (l.setIfInBounds 10 true) a' w'') a w' := by
  obtain ⟨o, ho, hg, hop, hdst⟩ := hop
  obtain ⟨t2, t3, t4, t5, t6, t7, t8, t9, rfl, hsz, h0, h0n, h17, h18, h19, h20, h21, h22, h23⟩ := h
  have hun : l.getD 10 true = false := (mem_ready.1 hr).1
  have hsz2 : 10 < l.size := by omega
  have hunf : l.getD 10 false = false := by simpa [hsz2] using hun
  refine wpOp_of ho hg ?_
  have hl0 := (dep_of (List.all_eq_true.1 hd (10, 0) (by decide)) hr)
  obtain ⟨b, L, rfl, hm, hp⟩ := h0 hl0
  have hlen : L.length ≤ 16 := by
    rw [hp.length_eq]
    unfold lit
    rw [List.length_map]
    exact Nat.le_trans (List.length_filter_le _ _) (by decide)
  refine oper_insert _ _ _ _ hop Tryd.underlying158 5 8 rfl rfl rfl hm (by omega) (by omega) (by omega) (by omega) (by omega) ?_
  intro w2 hm2
  refine ⟨t2, .map (some b), t4, t5, t6, t7, t8, t9, ?_, by simpa using hsz, ?_, ?_, ?_, fun hh => h18 (by rw [gs l 10 18 hsz2] at hh; simpa using hh), fun hh => h19 (by rw [gs l 10 19 hsz2] at hh; simpa using hh), fun hh => h20 (by rw [gs l 10 20 hsz2] at hh; simpa using hh), fun hh => h21 (by rw [gs l 10 21 hsz2] at hh; simpa using hh), fun hh => h22 (by rw [gs l 10 22 hsz2] at hh; simpa using hh), fun hh => h23 (by rw [gs l 10 23 hsz2] at hh; simpa using hh)⟩
  · rw [hdst]; rfl
  · exact fun hh => ⟨b, _, rfl, hm2, (hp.cons _).trans (lit_set l 10 (5, 8) hun fsP fsP_nodup (by decide))⟩
  · exact fun hh => absurd (getD_set_true hl0) (by rw [hh]; simp)
  · exact fun hh => absurd ((h17 (by rw [gs l 10 17 hsz2] at hh; simpa using hh)).2.2 (10, 5, 8) (by decide)) (by rw [hunf]; simp)
theorem fs_step11 (ops : Array Oper) (Q : Exit → Act → World → Prop) (w : World) (k R S : Int) (hk : -9223372036854775808 ≤ k ∧ k ≤ 9223372036854775807) (hR : look fszL k = R) (hw : IntKind.i64.wrap (R - S) = R - S) (hS : ∀ W, Calls Tryd.prog 101 #[.int .i64 k] W fun e w' => e = .returned (.int .i64 S) ∧ w' = W)
    (hd : (fsD.all fun p => hasDep ops p.1 p.2) = true)
    (hop : ∃ o, ops[11]? = some o ∧ o.guard = none ∧ o.op = .insert 158 (.tmp 3) (.const (.int .i64 9)) (.const (.int .i64 8)) ∧ o.dst = none) (l : Array Bool) (a : Act) (w' : World) (h : FsI w k R S l a w') (hr : 11 ∈ Region.ready .any ops l) : wpOp Tryd.prog ops Q 11 (fun a' w'' => FsI w k R S (l.setIfInBounds 11 true) a' w'') a w' := by
  obtain ⟨o, ho, hg, hop, hdst⟩ := hop
  obtain ⟨t2, t3, t4, t5, t6, t7, t8, t9, rfl, hsz, h0, h0n, h17, h18, h19, h20, h21, h22, h23⟩ := h
  have hun : l.getD 11 true = false := (mem_ready.1 hr).1
  have hsz2 : 11 < l.size := by omega
  have hunf : l.getD 11 false = false := by simpa [hsz2] using hun
  refine wpOp_of ho hg ?_
  have hl0 := (dep_of (List.all_eq_true.1 hd (11, 0) (by decide)) hr)
  obtain ⟨b, L, rfl, hm, hp⟩ := h0 hl0
  have hlen : L.length ≤ 16 := by
    rw [hp.length_eq]
    unfold lit
    rw [List.length_map]
    exact Nat.le_trans (List.length_filter_le _ _) (by decide)
  refine oper_insert _ _ _ _ hop Tryd.underlying158 9 8 rfl rfl rfl hm (by omega) (by omega) (by omega) (by omega) (by omega) ?_
  intro w2 hm2
  refine ⟨t2, .map (some b), t4, t5, t6, t7, t8, t9, ?_, by simpa using hsz, ?_, ?_, ?_, fun hh => h18 (by rw [gs l 11 18 hsz2] at hh; simpa using hh), fun hh => h19 (by rw [gs l 11 19 hsz2] at hh; simpa using hh), fun hh => h20 (by rw [gs l 11 20 hsz2] at hh; simpa using hh), fun hh => h21 (by rw [gs l 11 21 hsz2] at hh; simpa using hh), fun hh => h22 (by rw [gs l 11 22 hsz2] at hh; simpa using hh), fun hh => h23 (by rw [gs l 11 23 hsz2] at hh; simpa using hh)⟩
  · rw [hdst]; rfl
  · exact fun hh => ⟨b, _, rfl, hm2, (hp.cons _).trans (lit_set l 11 (9, 8) hun fsP fsP_nodup (by decide))⟩
  · exact fun hh => absurd (getD_set_true hl0) (by rw [hh]; simp)
  · exact fun hh => absurd ((h17 (by rw [gs l 11 17 hsz2] at hh; simpa using hh)).2.2 (11, 9, 8) (by decide)) (by rw [hunf]; simp)
theorem fs_step12 (ops : Array Oper) (Q : Exit → Act → World → Prop) (w : World) (k R S : Int) (hk : -9223372036854775808 ≤ k ∧ k ≤ 9223372036854775807) (hR : look fszL k = R) (hw : IntKind.i64.wrap (R - S) = R - S) (hS : ∀ W, Calls Tryd.prog 101 #[.int .i64 k] W fun e w' => e = .returned (.int .i64 S) ∧ w' = W)
    (hd : (fsD.all fun p => hasDep ops p.1 p.2) = true)
    (hop : ∃ o, ops[12]? = some o ∧ o.guard = none ∧ o.op = .insert 158 (.tmp 3) (.const (.int .i64 11)) (.const (.int .i64 8)) ∧ o.dst = none) (l : Array Bool) (a : Act) (w' : World) (h : FsI w k R S l a w') (hr : 12 ∈ Region.ready .any ops l) : wpOp Tryd.prog ops Q 12 (fun a' w'' => FsI w k R S (l.setIfInBounds 12 true) a' w'') a w' := by
  obtain ⟨o, ho, hg, hop, hdst⟩ := hop
  obtain ⟨t2, t3, t4, t5, t6, t7, t8, t9, rfl, hsz, h0, h0n, h17, h18, h19, h20, h21, h22, h23⟩ := h
  have hun : l.getD 12 true = false := (mem_ready.1 hr).1
  have hsz2 : 12 < l.size := by omega
  have hunf : l.getD 12 false = false := by simpa [hsz2] using hun
  refine wpOp_of ho hg ?_
  have hl0 := (dep_of (List.all_eq_true.1 hd (12, 0) (by decide)) hr)
  obtain ⟨b, L, rfl, hm, hp⟩ := h0 hl0
  have hlen : L.length ≤ 16 := by
    rw [hp.length_eq]
    unfold lit
    rw [List.length_map]
    exact Nat.le_trans (List.length_filter_le _ _) (by decide)
  refine oper_insert _ _ _ _ hop Tryd.underlying158 11 8 rfl rfl rfl hm (by omega) (by omega) (by omega) (by omega) (by omega) ?_
  intro w2 hm2
  refine ⟨t2, .map (some b), t4, t5, t6, t7, t8, t9, ?_, by simpa using hsz, ?_, ?_, ?_, fun hh => h18 (by rw [gs l 12 18 hsz2] at hh; simpa using hh), fun hh => h19 (by rw [gs l 12 19 hsz2] at hh; simpa using hh), fun hh => h20 (by rw [gs l 12 20 hsz2] at hh; simpa using hh), fun hh => h21 (by rw [gs l 12 21 hsz2] at hh; simpa using hh), fun hh => h22 (by rw [gs l 12 22 hsz2] at hh; simpa using hh), fun hh => h23 (by rw [gs l 12 23 hsz2] at hh; simpa using hh)⟩
  · rw [hdst]; rfl
  · exact fun hh => ⟨b, _, rfl, hm2, (hp.cons _).trans (lit_set l 12 (11, 8) hun fsP fsP_nodup (by decide))⟩
  · exact fun hh => absurd (getD_set_true hl0) (by rw [hh]; simp)
  · exact fun hh => absurd ((h17 (by rw [gs l 12 17 hsz2] at hh; simpa using hh)).2.2 (12, 11, 8) (by decide)) (by rw [hunf]; simp)
theorem fs_step13 (ops : Array Oper) (Q : Exit → Act → World → Prop) (w : World) (k R S : Int) (hk : -9223372036854775808 ≤ k ∧ k ≤ 9223372036854775807) (hR : look fszL k = R) (hw : IntKind.i64.wrap (R - S) = R - S) (hS : ∀ W, Calls Tryd.prog 101 #[.int .i64 k] W fun e w' => e = .returned (.int .i64 S) ∧ w' = W)
    (hd : (fsD.all fun p => hasDep ops p.1 p.2) = true)
    (hop : ∃ o, ops[13]? = some o ∧ o.guard = none ∧ o.op = .insert 158 (.tmp 3) (.const (.int .i64 13)) (.const (.int .i64 8)) ∧ o.dst = none) (l : Array Bool) (a : Act) (w' : World) (h : FsI w k R S l a w') (hr : 13 ∈ Region.ready .any ops l) : wpOp Tryd.prog ops Q 13 (fun a' w'' => FsI w k R S (l.setIfInBounds 13 true) a' w'') a w' := by
  obtain ⟨o, ho, hg, hop, hdst⟩ := hop
  obtain ⟨t2, t3, t4, t5, t6, t7, t8, t9, rfl, hsz, h0, h0n, h17, h18, h19, h20, h21, h22, h23⟩ := h
  have hun : l.getD 13 true = false := (mem_ready.1 hr).1
  have hsz2 : 13 < l.size := by omega
  have hunf : l.getD 13 false = false := by simpa [hsz2] using hun
  refine wpOp_of ho hg ?_
  have hl0 := (dep_of (List.all_eq_true.1 hd (13, 0) (by decide)) hr)
  obtain ⟨b, L, rfl, hm, hp⟩ := h0 hl0
  have hlen : L.length ≤ 16 := by
    rw [hp.length_eq]
    unfold lit
    rw [List.length_map]
    exact Nat.le_trans (List.length_filter_le _ _) (by decide)
  refine oper_insert _ _ _ _ hop Tryd.underlying158 13 8 rfl rfl rfl hm (by omega) (by omega) (by omega) (by omega) (by omega) ?_
  intro w2 hm2
  refine ⟨t2, .map (some b), t4, t5, t6, t7, t8, t9, ?_, by simpa using hsz, ?_, ?_, ?_, fun hh => h18 (by rw [gs l 13 18 hsz2] at hh; simpa using hh), fun hh => h19 (by rw [gs l 13 19 hsz2] at hh; simpa using hh), fun hh => h20 (by rw [gs l 13 20 hsz2] at hh; simpa using hh), fun hh => h21 (by rw [gs l 13 21 hsz2] at hh; simpa using hh), fun hh => h22 (by rw [gs l 13 22 hsz2] at hh; simpa using hh), fun hh => h23 (by rw [gs l 13 23 hsz2] at hh; simpa using hh)⟩
  · rw [hdst]; rfl
  · exact fun hh => ⟨b, _, rfl, hm2, (hp.cons _).trans (lit_set l 13 (13, 8) hun fsP fsP_nodup (by decide))⟩
  · exact fun hh => absurd (getD_set_true hl0) (by rw [hh]; simp)
  · exact fun hh => absurd ((h17 (by rw [gs l 13 17 hsz2] at hh; simpa using hh)).2.2 (13, 13, 8) (by decide)) (by rw [hunf]; simp)
theorem fs_step14 (ops : Array Oper) (Q : Exit → Act → World → Prop) (w : World) (k R S : Int) (hk : -9223372036854775808 ≤ k ∧ k ≤ 9223372036854775807) (hR : look fszL k = R) (hw : IntKind.i64.wrap (R - S) = R - S) (hS : ∀ W, Calls Tryd.prog 101 #[.int .i64 k] W fun e w' => e = .returned (.int .i64 S) ∧ w' = W)
    (hd : (fsD.all fun p => hasDep ops p.1 p.2) = true)
    (hop : ∃ o, ops[14]? = some o ∧ o.guard = none ∧ o.op = .insert 158 (.tmp 3) (.const (.int .i64 16)) (.const (.int .i64 8)) ∧ o.dst = none) (l : Array Bool) (a : Act) (w' : World) (h : FsI w k R S l a w') (hr : 14 ∈ Region.ready .any ops l) : wpOp Tryd.prog ops Q 14 (fun a' w'' => FsI w k R S (l.setIfInBounds 14 true) a' w'') a w' := by
  obtain ⟨o, ho, hg, hop, hdst⟩ := hop
  obtain ⟨t2, t3, t4, t5, t6, t7, t8, t9, rfl, hsz, h0, h0n, h17, h18, h19, h20, h21, h22, h23⟩ := h
  have hun : l.getD 14 true = false := (mem_ready.1 hr).1
  have hsz2 : 14 < l.size := by omega
  have hunf : l.getD 14 false = false := by simpa [hsz2] using hun
  refine wpOp_of ho hg ?_
  have hl0 := (dep_of (List.all_eq_true.1 hd (14, 0) (by decide)) hr)
  obtain ⟨b, L, rfl, hm, hp⟩ := h0 hl0
  have hlen : L.length ≤ 16 := by
    rw [hp.length_eq]
    unfold lit
    rw [List.length_map]
    exact Nat.le_trans (List.length_filter_le _ _) (by decide)
  refine oper_insert _ _ _ _ hop Tryd.underlying158 16 8 rfl rfl rfl hm (by omega) (by omega) (by omega) (by omega) (by omega) ?_
  intro w2 hm2
  refine ⟨t2, .map (some b), t4, t5, t6, t7, t8, t9, ?_, by simpa using hsz, ?_, ?_, ?_, fun hh => h18 (by rw [gs l 14 18 hsz2] at hh; simpa using hh), fun hh => h19 (by rw [gs l 14 19 hsz2] at hh; simpa using hh), fun hh => h20 (by rw [gs l 14 20 hsz2] at hh; simpa using hh), fun hh => h21 (by rw [gs l 14 21 hsz2] at hh; simpa using hh), fun hh => h22 (by rw [gs l 14 22 hsz2] at hh; simpa using hh), fun hh => h23 (by rw [gs l 14 23 hsz2] at hh; simpa using hh)⟩
  · rw [hdst]; rfl
  · exact fun hh => ⟨b, _, rfl, hm2, (hp.cons _).trans (lit_set l 14 (16, 8) hun fsP fsP_nodup (by decide))⟩
  · exact fun hh => absurd (getD_set_true hl0) (by rw [hh]; simp)
  · exact fun hh => absurd ((h17 (by rw [gs l 14 17 hsz2] at hh; simpa using hh)).2.2 (14, 16, 8) (by decide)) (by rw [hunf]; simp)
theorem fs_step15 (ops : Array Oper) (Q : Exit → Act → World → Prop) (w : World) (k R S : Int) (hk : -9223372036854775808 ≤ k ∧ k ≤ 9223372036854775807) (hR : look fszL k = R) (hw : IntKind.i64.wrap (R - S) = R - S) (hS : ∀ W, Calls Tryd.prog 101 #[.int .i64 k] W fun e w' => e = .returned (.int .i64 S) ∧ w' = W)
    (hd : (fsD.all fun p => hasDep ops p.1 p.2) = true)
    (hop : ∃ o, ops[15]? = some o ∧ o.guard = none ∧ o.op = .insert 158 (.tmp 3) (.const (.int .i64 14)) (.const (.int .i64 16)) ∧ o.dst = none) (l : Array Bool) (a : Act) (w' : World) (h : FsI w k R S l a w') (hr : 15 ∈ Region.ready .any ops l) : wpOp Tryd.prog ops Q 15 (fun a' w'' => FsI w k R S (l.setIfInBounds 15 true) a' w'') a w' := by
  obtain ⟨o, ho, hg, hop, hdst⟩ := hop
  obtain ⟨t2, t3, t4, t5, t6, t7, t8, t9, rfl, hsz, h0, h0n, h17, h18, h19, h20, h21, h22, h23⟩ := h
  have hun : l.getD 15 true = false := (mem_ready.1 hr).1
  have hsz2 : 15 < l.size := by omega
  have hunf : l.getD 15 false = false := by simpa [hsz2] using hun
  refine wpOp_of ho hg ?_
  have hl0 := (dep_of (List.all_eq_true.1 hd (15, 0) (by decide)) hr)
  obtain ⟨b, L, rfl, hm, hp⟩ := h0 hl0
  have hlen : L.length ≤ 16 := by
    rw [hp.length_eq]
    unfold lit
    rw [List.length_map]
    exact Nat.le_trans (List.length_filter_le _ _) (by decide)
  refine oper_insert _ _ _ _ hop Tryd.underlying158 14 16 rfl rfl rfl hm (by omega) (by omega) (by omega) (by omega) (by omega) ?_
  intro w2 hm2
  refine ⟨t2, .map (some b), t4, t5, t6, t7, t8, t9, ?_, by simpa using hsz, ?_, ?_, ?_, fun hh => h18 (by rw [gs l 15 18 hsz2] at hh; simpa using hh), fun hh => h19 (by rw [gs l 15 19 hsz2] at hh; simpa using hh), fun hh => h20 (by rw [gs l 15 20 hsz2] at hh; simpa using hh), fun hh => h21 (by rw [gs l 15 21 hsz2] at hh; simpa using hh), fun hh => h22 (by rw [gs l 15 22 hsz2] at hh; simpa using hh), fun hh => h23 (by rw [gs l 15 23 hsz2] at hh; simpa using hh)⟩
  · rw [hdst]; rfl
  · exact fun hh => ⟨b, _, rfl, hm2, (hp.cons _).trans (lit_set l 15 (14, 16) hun fsP fsP_nodup (by decide))⟩
  · exact fun hh => absurd (getD_set_true hl0) (by rw [hh]; simp)
  · exact fun hh => absurd ((h17 (by rw [gs l 15 17 hsz2] at hh; simpa using hh)).2.2 (15, 14, 16) (by decide)) (by rw [hunf]; simp)
theorem fs_step16 (ops : Array Oper) (Q : Exit → Act → World → Prop) (w : World) (k R S : Int) (hk : -9223372036854775808 ≤ k ∧ k ≤ 9223372036854775807) (hR : look fszL k = R) (hw : IntKind.i64.wrap (R - S) = R - S) (hS : ∀ W, Calls Tryd.prog 101 #[.int .i64 k] W fun e w' => e = .returned (.int .i64 S) ∧ w' = W)
    (hd : (fsD.all fun p => hasDep ops p.1 p.2) = true)
    (hop : ∃ o, ops[16]? = some o ∧ o.guard = none ∧ o.op = .insert 158 (.tmp 3) (.const (.int .i64 17)) (.const (.int .i64 16)) ∧ o.dst = none) (l : Array Bool) (a : Act) (w' : World) (h : FsI w k R S l a w') (hr : 16 ∈ Region.ready .any ops l) : wpOp Tryd.prog ops Q 16 (fun a' w'' => FsI w k R S (l.setIfInBounds 16 true) a' w'') a w' := by
  obtain ⟨o, ho, hg, hop, hdst⟩ := hop
  obtain ⟨t2, t3, t4, t5, t6, t7, t8, t9, rfl, hsz, h0, h0n, h17, h18, h19, h20, h21, h22, h23⟩ := h
  have hun : l.getD 16 true = false := (mem_ready.1 hr).1
  have hsz2 : 16 < l.size := by omega
  have hunf : l.getD 16 false = false := by simpa [hsz2] using hun
  refine wpOp_of ho hg ?_
  have hl0 := (dep_of (List.all_eq_true.1 hd (16, 0) (by decide)) hr)
  obtain ⟨b, L, rfl, hm, hp⟩ := h0 hl0
  have hlen : L.length ≤ 16 := by
    rw [hp.length_eq]
    unfold lit
    rw [List.length_map]
    exact Nat.le_trans (List.length_filter_le _ _) (by decide)
  refine oper_insert _ _ _ _ hop Tryd.underlying158 17 16 rfl rfl rfl hm (by omega) (by omega) (by omega) (by omega) (by omega) ?_
  intro w2 hm2
  refine ⟨t2, .map (some b), t4, t5, t6, t7, t8, t9, ?_, by simpa using hsz, ?_, ?_, ?_, fun hh => h18 (by rw [gs l 16 18 hsz2] at hh; simpa using hh), fun hh => h19 (by rw [gs l 16 19 hsz2] at hh; simpa using hh), fun hh => h20 (by rw [gs l 16 20 hsz2] at hh; simpa using hh), fun hh => h21 (by rw [gs l 16 21 hsz2] at hh; simpa using hh), fun hh => h22 (by rw [gs l 16 22 hsz2] at hh; simpa using hh), fun hh => h23 (by rw [gs l 16 23 hsz2] at hh; simpa using hh)⟩
  · rw [hdst]; rfl
  · exact fun hh => ⟨b, _, rfl, hm2, (hp.cons _).trans (lit_set l 16 (17, 16) hun fsP fsP_nodup (by decide))⟩
  · exact fun hh => absurd (getD_set_true hl0) (by rw [hh]; simp)
  · exact fun hh => absurd ((h17 (by rw [gs l 16 17 hsz2] at hh; simpa using hh)).2.2 (16, 17, 16) (by decide)) (by rw [hunf]; simp)
theorem fs_step19 (ops : Array Oper) (Q : Exit → Act → World → Prop) (w : World) (k R S : Int) (hk : -9223372036854775808 ≤ k ∧ k ≤ 9223372036854775807) (hR : look fszL k = R) (hw : IntKind.i64.wrap (R - S) = R - S) (hS : ∀ W, Calls Tryd.prog 101 #[.int .i64 k] W fun e w' => e = .returned (.int .i64 S) ∧ w' = W)
    (hd : (fsD.all fun p => hasDep ops p.1 p.2) = true)
    (hop : ∃ o, ops[19]? = some o ∧ o.guard = none ∧ o.op = .lookup 158 (.tmp 4) (.tmp 5) false ∧ o.dst = some 6) (l : Array Bool) (a : Act) (w' : World) (h : FsI w k R S l a w') (hr : 19 ∈ Region.ready .any ops l) : wpOp Tryd.prog ops Q 19 (fun a' w'' => FsI w k R S (l.setIfInBounds 19 true) a' w'') a w' := by
  obtain ⟨o, ho, hg, hop, hdst⟩ := hop
  obtain ⟨t2, t3, t4, t5, t6, t7, t8, t9, rfl, hsz, h0, h0n, h17, h18, h19, h20, h21, h22, h23⟩ := h
  have hun : l.getD 19 true = false := (mem_ready.1 hr).1
  have hsz2 : 19 < l.size := by omega
  have hunf : l.getD 19 false = false := by simpa [hsz2] using hun
  refine wpOp_of ho hg ?_
  obtain ⟨e4, hl0, hall⟩ := h17 (dep_of (List.all_eq_true.1 hd (19, 17) (by decide)) hr)
  obtain rfl := h18 (dep_of (List.all_eq_true.1 hd (19, 18) (by decide)) hr)
  obtain ⟨b, L, rfl, hm, hp⟩ := h0 hl0
  subst e4
  rw [fs_full l hall] at hp
  refine oper_lookup _ _ _ hop Tryd.underlying158 k rfl rfl hm hk.1 hk.2 R ?_ ?_
  · rw [look_perm hp k ((hp.map (·.1)).nodup_iff.2 fsK_nodup), fs_look, hR]
  refine ⟨t2, .map (some b), .map (some b), .int .i64 k, .int .i64 R, t7, t8, t9, ?_, by simpa using hsz, ?_, ?_, ?_, fun hh => h18 (by rw [gs l 19 18 hsz2] at hh; simpa using hh), fun _ => rfl, fun hh => h20 (by rw [gs l 19 20 hsz2] at hh; simpa using hh), fun hh => h21 (by rw [gs l 19 21 hsz2] at hh; simpa using hh), fun hh => h22 (by rw [gs l 19 22 hsz2] at hh; simpa using hh), fun hh => h23 (by rw [gs l 19 23 hsz2] at hh; simpa using hh)⟩
  · rw [hdst]; rfl
  · exact fun hh => by
      obtain ⟨b, L, e, hm, hp⟩ := h0 (by rw [gs l 19 0 hsz2] at hh; simpa using hh)
      exact ⟨b, L, e, hm, by rw [lit_far l 19 fsP (by decide)]; exact hp⟩
  · exact fun hh => by
      have := h0n (by rw [gs l 19 0 hsz2] at hh; simpa using hh)
      exact ⟨this.1, by rw [lit_far l 19 fsP (by decide)]; exact this.2⟩
  · exact fun hh => by
      have := h17 (by rw [gs l 19 17 hsz2] at hh; simpa using hh)
      exact ⟨this.1, getD_set_true this.2.1, fun p hp => getD_set_true (this.2.2 p hp)⟩
theorem fs_step21 (ops : Array Oper) (Q : Exit → Act → World → Prop) (w : World) (k R S : Int) (hk : -9223372036854775808 ≤ k ∧ k ≤ 9223372036854775807) (hR : look fszL k = R) (hw : IntKind.i64.wrap (R - S) = R - S) (hS : ∀ W, Calls Tryd.prog 101 #[.int .i64 k] W fun e w' => e = .returned (.int .i64 S) ∧ w' = W)
    (hd : (fsD.all fun p => hasDep ops p.1 p.2) = true)
    (hop : ∃ o, ops[21]? = some o ∧ o.guard = none ∧ o.op = .call { callee := .value (.func 101), args := #[.tmp 7], argTypes := #[3] } ∧ o.dst = some 8) (l : Array Bool) (a : Act) (w' : World) (h : FsI w k R S l a w') (hr : 21 ∈ Region.ready .any ops l) : wpOp Tryd.prog ops Q 21 (fun a' w'' => FsI w k R S (l.setIfInBounds 21 true) a' w'') a w' := by
  obtain ⟨o, ho, hg, hop, hdst⟩ := hop
  obtain ⟨t2, t3, t4, t5, t6, t7, t8, t9, rfl, hsz, h0, h0n, h17, h18, h19, h20, h21, h22, h23⟩ := h
  have hun : l.getD 21 true = false := (mem_ready.1 hr).1
  have hsz2 : 21 < l.size := by omega
  have hunf : l.getD 21 false = false := by simpa [hsz2] using hun
  refine wpOp_of ho hg ?_
  obtain rfl := h20 (dep_of (List.all_eq_true.1 hd (21, 20) (by decide)) hr)
  unfold Oper.wp
  simp only [execOp, hop]
  go_simp
  refine (hS _).mono ?_
  rintro e w2 ⟨rfl, hw2⟩
  have hw3 := hw2.symm
  subst hw3
  refine ⟨t2, t3, t4, t5, t6, .int .i64 k, .int .i64 S, t9, ?_, by simpa using hsz, ?_, ?_, ?_, fun hh => h18 (by rw [gs l 21 18 hsz2] at hh; simpa using hh), fun hh => h19 (by rw [gs l 21 19 hsz2] at hh; simpa using hh), fun hh => h20 (by rw [gs l 21 20 hsz2] at hh; simpa using hh), fun _ => rfl, fun hh => h22 (by rw [gs l 21 22 hsz2] at hh; simpa using hh), fun hh => h23 (by rw [gs l 21 23 hsz2] at hh; simpa using hh)⟩
  · rfl
  · exact fun hh => by
      obtain ⟨b, L, e, hm, hp⟩ := h0 (by rw [gs l 21 0 hsz2] at hh; simpa using hh)
      exact ⟨b, L, e, hm, by rw [lit_far l 21 fsP (by decide)]; exact hp⟩
  · exact fun hh => by
      have := h0n (by rw [gs l 21 0 hsz2] at hh; simpa using hh)
      exact ⟨this.1, by rw [lit_far l 21 fsP (by decide)]; exact this.2⟩
  · exact fun hh => by
      have := h17 (by rw [gs l 21 17 hsz2] at hh; simpa using hh)
      exact ⟨this.1, getD_set_true this.2.1, fun p hp => getD_set_true (this.2.2 p hp)⟩
end Go.Proofs.YtjjhckbidcdkcaaDoor
