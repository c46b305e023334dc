/- Rows of values as cells; spec.Values. PRINTED by wip/genhl.py. -/
import Derived.Lib.Hide
import Derived.Deep.DeepMust
import Derived.Deep.RegionLawGrows
import Derived.Deep.AppendLies
import Derived.Maps.RangeWalk
import Derived.Test.YtjjhckbidcdkcaaDoorHa
import Derived.Test.YtjjhckbidcdkcaaDoorMap
namespace Go.Proofs.YtjjhckbidcdkcaaDoor
open Go.RowKit
set_option linter.unusedVariables false

theorem infoVal : (Tryd.prog.info? 25).map (fun i => (i.zero, i.size, i.bytes)) = some (some (.agg #[.int .i64 0, .int .u64 0, .string ⟨#[]⟩, .slice none 0 0, .int .i64 0, .slice none 0 0]), 6, 88) := by kernel_rfl
/-- The cells of the first n of a row of values. -/
def rowV (f : Nat → VT) (AA : Nat → Bool → Option Addr) (CC : Nat → Bool → Nat) : Nat → List Value
  | 0 => []
  | n + 1 => rowV f AA CC n ++ cV (f n) (AA n) (CC n)
section
variable {f : Nat → VT} {AA : Nat → Bool → Option Addr} {CC : Nat → Bool → Nat}
theorem rowV_length : ∀ n, (rowV f AA CC n).length = n * 6
  | 0 => rfl
  | n + 1 => by rw [rowV, List.length_append, rowV_length n]; simp [cV]; omega
theorem rowV_get : ∀ (n i q : Nat), i < n → q < 6 → (rowV f AA CC n)[i * 6 + q]? = (cV (f i) (AA i) (CC i))[q]?
  | n + 1, i, q, hi, hq => by
    rw [rowV]
    by_cases h : i = n
    · subst h
      rw [List.getElem?_append_right (by rw [rowV_length]; omega), rowV_length, Nat.add_sub_cancel_left]
    · rw [List.getElem?_append_left (by rw [rowV_length]; omega)]
      exact rowV_get n i q (by omega) hq
theorem rowV_one : ∀ n, ∀ v ∈ rowV f AA CC n, v.oneCell' = true
  | 0 => by intro v hv; cases hv
  | n + 1 => by
    intro v hv
    rw [rowV] at hv
    rcases List.mem_append.1 hv with h | h
    · exact rowV_one n v h
    · simp only [cV, List.mem_cons, List.not_mem_nil, or_false] at h
      rcases h with rfl | rfl | rfl | rfl | rfl | rfl <;> simp [Value.oneCell']
theorem rowV_congr {f' : Nat → VT} {AA' : Nat → Bool → Option Addr} {CC' : Nat → Bool → Nat} : ∀ n, (∀ i, i < n → f i = f' i ∧ AA i = AA' i ∧ CC i = CC' i) → rowV f AA CC n = rowV f' AA' CC' n
  | 0, _ => rfl
  | n + 1, h => by
    obtain ⟨h1, h2, h3⟩ := h n (by omega)
    rw [rowV, rowV, rowV_congr n (fun i hi => h i (by omega)), h1, h2, h3]
end
/-- Two rows, one behind the other. -/
def glue {α : Type} (n : Nat) (f g : Nat → α) (i : Nat) : α := if i < n then f i else g (i - n)
theorem rowV_glue {f g : Nat → VT} {A A' : Nat → Bool → Option Addr} {C C' : Nat → Bool → Nat} (n : Nat) : ∀ m, rowV f A C n ++ rowV g A' C' m = rowV (glue n f g) (glue n A A') (glue n C C') (n + m)
  | 0 => by
    rw [rowV, List.append_nil, Nat.add_zero]
    exact rowV_congr n fun i hi => by unfold glue; rw [if_pos hi, if_pos hi, if_pos hi]; exact ⟨rfl, rfl, rfl⟩
  | m + 1 => by
    rw [rowV, ← List.append_assoc, rowV_glue n m, ← Nat.add_assoc, rowV]
    congr 1
    unfold glue
    rw [if_neg (by omega), if_neg (by omega), if_neg (by omega), Nat.add_sub_cancel_left]
theorem sumV_glue (f g : Nat → VT) (n : Nat) : ∀ m, sumV (fun i => (glue n f g i).cnt) (n + m) = sumV (fun i => (f i).cnt) n + sumV (fun i => (g i).cnt) m
  | 0 => by
    show sumV _ n = _
    have : ∀ k, k ≤ n → sumV (fun i => (glue n f g i).cnt) k = sumV (fun i => (f i).cnt) k := fun k => by
      induction k with
      | zero => intro _; rfl
      | succ k ih => intro hk; simp only [sumV]; rw [ih (by omega), glue, if_pos (by omega)]
    rw [this n (Nat.le_refl _)]
    rfl
  | m + 1 => by
    show sumV _ (n + m) + _ = _ + (sumV _ m + _)
    rw [sumV_glue f g n m, Nat.add_assoc]
    congr 2
    show (glue n f g (n + m)).cnt = (g m).cnt
    unfold glue
    rw [if_neg (by omega), Nat.add_sub_cancel_left]
/-- The values in a row, as cells. -/
theorem reads_kids {W : World} {B n : Nat} {A : Option Addr} {f : Nat → VT} (h : 0 < n → ∃ g p, A = some ⟨g, p, none⟩ ∧ g < B ∧ ∀ i, i < n → ∃ Ai ci, VAt W g (p + i * 6) (f i) Ai ci ∧ TV W B (f i) Ai ci) :
    ∃ AA CC, Reads W B 6 A n (rowV f AA CC n) ∧ ∀ i, i < n → TV W B (f i) (AA i) (CC i) := by
  rcases Nat.eq_zero_or_pos n with rfl | hn
  · exact ⟨fun _ _ => none, fun _ _ => 0, ⟨by simp [rowV], fun h => absurd h (by omega)⟩, fun i hi => absurd hi (by omega)⟩
  · obtain ⟨g, p, hA, hg, hk⟩ := h hn
    have hk2 : ∀ i, ∃ AC : (Bool → Option Addr) × (Bool → Nat), i < n → VAt W g (p + i * 6) (f i) AC.1 AC.2 ∧ TV W B (f i) AC.1 AC.2 := fun i => by
      by_cases hi : i < n
      · obtain ⟨Ai, ci, h1, h2⟩ := hk i hi
        exact ⟨(Ai, ci), fun _ => ⟨h1, h2⟩⟩
      · exact ⟨(fun _ => none, fun _ => 0), fun h => absurd h hi⟩
    obtain ⟨AC, hAC⟩ := Classical.axiomOfChoice hk2
    refine ⟨fun i => (AC i).1, fun i => (AC i).2, ⟨rowV_length n, fun _ => ⟨_, hA, hg, fun j u hu => ?_⟩⟩, fun i hi => (hAC i hi).2⟩
    have hj : j < n * 6 := by rw [← rowV_length (f := f) (AA := fun i => (AC i).1) (CC := fun i => (AC i).2) n]; exact (List.getElem?_eq_some_iff.1 hu).1
    have hd : j = j / 6 * 6 + j % 6 := by omega
    have hi : j / 6 < n := by omega
    have hq : j % 6 < 6 := Nat.mod_lt _ (by omega)
    rw [hd, rowV_get n _ _ hi hq] at hu
    rw [add_lit, hd, ← Nat.add_assoc]
    obtain ⟨c0, c1, c2, c3, c4, c5⟩ := (hAC (j / 6) hi).1
    generalize j % 6 = q at hu hq ⊢
    match q, hq with
    | 0, _ => rw [Nat.add_zero, c0]; simpa [cV] using hu
    | 1, _ => rw [c1]; simpa [cV] using hu
    | 2, _ => rw [c2]; simpa [cV] using hu
    | 3, _ => rw [c3]; simpa [cV] using hu
    | 4, _ => rw [c4]; simpa [cV] using hu
    | 5, _ => rw [c5]; simpa [cV] using hu
theorem vAt_of_reads {W : World} {H g n : Nat} {f : Nat → VT} {AA : Nat → Bool → Option Addr} {CC : Nat → Bool → Nat} (h : Reads W H 6 (some ⟨g, 0, none⟩) n (rowV f AA CC n)) {i : Nat} (hi : i < n) : VAt W g (i * 6) (f i) (AA i) (CC i) := by
  obtain ⟨ad, hA, _, hc⟩ := h.2 (by omega)
  injection hA with hA
  subst hA
  have h2 : ∀ q, q < 6 → W.cell? ⟨g, i * 6 + q, none⟩ = (cV (f i) (AA i) (CC i))[q]? := fun q hq => by
    have h3 := rowV_get (f := f) (AA := AA) (CC := CC) n i q hi hq
    rcases hx : (cV (f i) (AA i) (CC i))[q]? with _ | x
    · exact absurd (List.getElem?_eq_none_iff.1 hx) (by simp [cV]; omega)
    · have := hc _ x (h3.trans hx)
      rwa [add_lit, Nat.zero_add] at this
  exact ⟨h2 0 (by omega), h2 1 (by omega), h2 2 (by omega), h2 3 (by omega), h2 4 (by omega), h2 5 (by omega)⟩
theorem step_append_V {w : World} {A2 : Option Addr} {v : Value} {m c2 n B : Nat} {xs news : List Value} {ops : Array Oper} {o : Oper} {a : Act} {K : Act → World → Prop} {Q : Exit → Act → World → Prop} {E : Prop} (hgd : o.guard = none) (x y : Operand) (N : Nat) (hN : n + m = N)
    (ho : o.op = .call { callee := .builtin .append, args := #[x, y], argTypes := #[23, 23] }) (hs : a.eval x = v) (hx : a.eval y = .slice A2 m c2)
    (hown : w.ownsRow B 25 6 v n xs) (hB : B ≤ w.heap.size) (hr : Reads w w.heap.size 6 A2 m news) (h1 : ∀ v ∈ news, v.oneCell' = true) (hn : n + m ≤ 1000000)
    (h : ∀ A' c' w', Hid (w'.ownsRow B 25 6 (.slice A' N c') N (xs ++ news)) → Hid (w.grownBy w' v.ownBlock) → K (a.put o.dst (.slice A' N c')) w') :
    if Region.wanted o (yielded ops a.tmps) = true then Oper.wp Tryd.prog o a w K Q else E := by
  have hwd : Region.wanted o (yielded ops a.tmps) = true := by simp [Region.wanted, hgd]
  rw [if_pos hwd]
  subst hN
  obtain ⟨i0, hi0, hz0, hz1, hz2⟩ := info_parts infoVal
  refine wp_append_any _ x y _ ho B 25 i0 _ 6 88 Tryd.underlying23 hi0 hz0 hz1 hz2 rfl (by omega) _ n xs hs hown w.heap.size A2 m c2 news hx hr h1 (by simp only [maxLen]; omega) (by omega) hB ?_
  intro v1 w1 hown1 hg1 hat1
  have hv1 : ∃ A c, v1 = .slice A (n + m) c := by
    rcases hown1.2 with ⟨hv, h0⟩ | ⟨g, cap, cur, rfl, _⟩
    · exact ⟨none, 0, by rw [hv, h0]⟩
    · exact ⟨_, _, rfl⟩
  obtain ⟨A', c', rfl⟩ := hv1
  exact h A' c' w1 hown1 hg1
set_option maxHeartbeats 4000000 in
set_option maxRecDepth 100000 in
theorem values_calls (B : Nat) : ∀ (T : VT) (W : World) (A : Bool → Option Addr) (c : Bool → Nat), TV W B T A c → B ≤ W.heap.size → T.cnt ≤ 2000 →
    Calls Tryd.prog 34 #[vV T A c] W fun e W' => e = .returned (.int .i64 (T.cnt : Int)) ∧ Below W.heap.size W W'
  | .mk k u s o n f, W, A, c, h, hB, hct => by
    have ih0 := fun i => values_calls B (f false i)
    have ih1 := fun i => values_calls B (f true i)
    obtain ⟨hwf, hk⟩ := h.open_
    obtain ⟨hnc0, hcm0, hk0⟩ := hk false
    obtain ⟨hnc1, hcm1, hk1⟩ := hk true
    have hcnt := VT.cnt_eq (.mk k u s o n f)
    clear hk h hwf
    unfold vV
    simp only [VT.n, VT.kid] at hnc0 hk0 hnc1 hk1 hcnt
    simp only [VT.k, VT.u, VT.s, VT.o, VT.n]
    generalize (VT.mk k u s o n f).cnt = C at *
    generalize A false = A0 at *
    generalize A true = A1 at *
    generalize c false = c0 at *
    generalize c true = c1 at *
    generalize n false = n0 at *
    generalize n true = n1 at *
    generalize f false = f0 at *
    generalize f true = f1 at *
    obtain ⟨AA0, CC0, hr0, ht0⟩ := reads_kids hk0
    obtain ⟨AA1, CC1, hr1, ht1⟩ := reads_kids hk1
    have hs0 := sumV_one (fun i => (f0 i).cnt) (fun i => VT.cnt_pos _) n0
    have hs1 := sumV_one (fun i => (f1 i).cnt) (fun i => VT.cnt_pos _) n1
    have hn0 : n0 ≤ 2000 := by omega
    have hn1 : n1 ≤ 2000 := by omega
    obtain ⟨w1, hw1⟩ : ∃ w1, w1 = W.alloc (.cells #[.int .i64 k, .int .u64 u, .string s, .slice A0 n0 c0, .int .i64 o, .slice A1 n1 c1] 25) := ⟨_, rfl⟩
    have hp1 : Blk w1 W.heap.size 25 [.int .i64 k, .int .u64 u, .string s, .slice A0 n0 c0, .int .i64 o, .slice A1 n1 c1] := by
      rw [hw1]
      exact Blk.new W 25 [.int .i64 k, .int .u64 u, .string s, .slice A0 n0 c0, .int .i64 o, .slice A1 n1 c1]
    have hb1 : Below W.heap.size W w1 := by rw [hw1]; exact (Below.refl _ W).alloc (Nat.le_refl _) _
    have hz1 : W.heap.size < w1.heap.size := hp1.lt
    have q3 := hp1.cell 3
    have q5 := hp1.cell 5
    simp only [List.getElem?_cons_zero, List.getElem?_cons_succ] at q3 q5
    have hr0' := (hr0.below (hb1.mono hB)).more (show B ≤ w1.heap.size by omega)
    have hr1' := (hr1.below (hb1.mono hB)).more (show B ≤ w1.heap.size by omega)
    have hgt : ∀ i, i < n0 + n1 → TV w1 B (glue n0 f0 f1 i) (glue n0 AA0 AA1 i) (glue n0 CC0 CC1 i) := fun i hi => by
      unfold glue
      by_cases h : i < n0
      · rw [if_pos h, if_pos h, if_pos h]; exact TV.below (hb1.mono hB) _ _ _ (ht0 i h)
      · rw [if_neg h, if_neg h, if_neg h]; exact TV.below (hb1.mono hB) _ _ _ (ht1 _ (by omega))
    have hih : ∀ i (W : World) A c, TV W B (glue n0 f0 f1 i) A c → B ≤ W.heap.size → (glue n0 f0 f1 i).cnt ≤ 2000 → Calls Tryd.prog 34 #[vV (glue n0 f0 f1 i) A c] W fun e W' => e = .returned (.int .i64 ((glue n0 f0 f1 i).cnt : Int)) ∧ Below W.heap.size W W' := fun i W A c => by
      unfold glue
      by_cases h : i < n0
      · rw [if_pos h]; exact ih0 i W A c
      · rw [if_neg h]; exact ih1 _ W A c
    have hsum := sumV_glue f0 f1 n0 n1
    have hrow := rowV_glue (f := f0) (g := f1) (A := AA0) (A' := AA1) (C := CC0) (C' := CC1) n0 n1
    generalize glue n0 f0 f1 = F at *
    generalize glue n0 AA0 AA1 = AA at *
    generalize glue n0 CC0 CC1 = CC at *
    have hct2 : C = 1 + sumV (fun i => (F i).cnt) (n0 + n1) := by omega
    obtain ⟨N, hN⟩ : ∃ N, n0 + n1 = N := ⟨_, rfl⟩
    have hNb : N ≤ 4000 := by omega
    rw [hN] at hgt hrow hct2
    have HN := Lib.hid hN
    have HR0 := Lib.hid hr0'
    have HR1 := Lib.hid hr1'
    have HO0 := Lib.hid (rowV_one (f := f0) (AA := AA0) (CC := CC0) n0)
    have HO1 := Lib.hid (rowV_one (f := f1) (AA := AA1) (CC := CC1) n1)
    have HT := Lib.hid hgt
    have HIH := Lib.hid hih
    have HROW := Lib.hid hrow
    have HC := Lib.hid hct2
    have HP1 := Lib.hid hp1
    have HB1 := Lib.hid hb1
    have HW1 := Lib.hid hw1
    have hBw : B ≤ w1.heap.size := by omega
    clear hk0 hk1 ih0 ih1 hcnt hr0 hr1 ht0 ht1 hs0 hs1 hr0' hr1' hgt hih hsum hrow hct2 hp1 hb1 hw1 hN
    go_enter Tryd.func34, Tryd.ntmps34
    go_wp2
    rw [← HW1.out]
    go_region_law (first
      | (have HM := Lib.hid (World.ownsRow_made (size := 6) (e := 25) w1 #[] 0 (Nat.le_refl _) (by simp) (by simp)).drew
         refine step_append_V (B := w1.heap.size) (v := .slice (some ⟨w1.heap.size, 0, none⟩) 0 0) (n := 0) (xs := []) rfl (.tmp 6) (.tmp 8) n0 (Nat.zero_add _) rfl rfl rfl HM.out (by simp) ((((HR0.out).alloc (Nat.le_refl _) _).more (by simp))) HO0.out (by omega) ?_
         intro A6 c6 w6 HO6 HG6
         have hp6 : Blk w6 W.heap.size 25 [.int .i64 k, .int .u64 u, .string s, .slice A0 n0 c0, .int .i64 o, .slice A1 n1 c1] := (((HP1.out.alloc _).drewN 1)).grown HG6.out (fun e => by have := (HM.out.lt _ e.symm).1; omega)
         have y3 := hp6.cell 3
         have y5 := hp6.cell 5
         simp only [List.getElem?_cons_zero, List.getElem?_cons_succ] at y3 y5
         have HB6 : Hid (Below w1.heap.size w1 w6) := ((Below.refl _ w1).alloc (Nat.le_refl _) (.cells #[] 25)).drew.trans (belowV HG6.out (fun j hj => (HM.out.lt j hj).1) (by simp))
         have HR6 : Hid (Reads w6 w6.heap.size 6 A1 n1 (rowV f1 AA1 CC1 n1)) := (HR1.out.below HB6.out).more HB6.out.size
         have HP6 := Lib.hid hp6
         have hz6 : w1.heap.size ≤ w6.heap.size := HB6.out.size
         clear hp6 HM HG6)
      | (refine step_append_V (B := w1.heap.size) (v := .slice A6 n0 c6) (n := n0) rfl (.tmp 9) (.tmp 11) N HN.out rfl rfl rfl HO6.out hz6 HR6.out HO1.out (by omega) ?_
         intro A7 c7 w7 HO7 HG7
         have HB7 : Hid (Below w1.heap.size w1 w7) := HB6.out.trans (belowV HG7.out (fun j hj => (HO6.out.lt j hj).1) hz6)
         clear HG7))
    all_goals
      clear HB6 HR6 HP6 hz6 HO6
      have hr7 : Reads w7 w7.heap.size 6 A7 N (rowV F AA CC N) := by
        have := Reads.of_own HO7.out
        rw [List.nil_append, HROW.out] at this
        exact this
      have hz7 : w1.heap.size ≤ w7.heap.size := HB7.out.size
      have hown7 := HO7.out.2
      have HR7 := Lib.hid hr7
      have HOW := Lib.hid hown7
      clear hr7 HO7 hown7
      dsimp only [Act.put, List.getElem_toArray, List.getElem_cons_succ, List.getElem_cons_zero, List.getElem_cons]
      go_frame
      go_wp2
      go_loopw [3, 14] (fun v i wr => ∃ m M : Nat, m ≤ N ∧ i = .int .i64 m ∧ v = .int .i64 M ∧ M ≤ 2000 ∧ Hid (M = 1 + sumV (fun i => (F i).cnt) m ∧ Below w7.heap.size w7 wr)) (fun _ i _ => N - (intOf i).toNat)
      case atStart => exact ⟨0, 1, Nat.zero_le _, rfl, rfl, by omega, rfl, Below.refl _ _⟩
      case round =>
        obtain ⟨m, M, hm, rfl, rfl, hM2, hrest⟩ := hrel
        obtain ⟨hM, hg2⟩ := hrest.out
        have HM := Lib.hid hM
        have HG2 := Lib.hid hg2
        have hwz : w7.heap.size ≤ wr.heap.size := hg2.size
        clear hrest hM hg2
        by_cases hlt : m < N
        · obtain ⟨g, hA⟩ : ∃ g, A7 = some ⟨g, 0, none⟩ := by
            rcases HOW.out with ⟨hv, h0⟩ | ⟨g, cap, cur, hv, _⟩
            · omega
            · injection hv with hv
              exact ⟨g, hv⟩
          subst hA
          have hgl : g < w7.heap.size := by
            obtain ⟨ad, had, hl, _⟩ := HR7.out.2 (by omega)
            cases had
            exact hl
          have hva := (vAt_of_reads HR7.out hlt).keep (W' := wr) (fun q => HG2.out.cell (p := ⟨g, q, none⟩) hgl)
          obtain ⟨d0, d1, d2, d3, d4, d5⟩ := hva
          have hsm := sumV_le (fun i => (F i).cnt) (show m + 1 ≤ N by omega)
          have hsm2 : sumV (fun i => (F i).cnt) (m + 1) = sumV (fun i => (F i).cnt) m + (F m).cnt := rfl
          obtain ⟨w2, hw2⟩ : ∃ w2, w2 = wr.alloc (.cells #[.int .i64 (F m).k, .int .u64 (F m).u, .string (F m).s, .slice (AA m false) ((F m).n false) (CC m false), .int .i64 (F m).o, .slice (AA m true) ((F m).n true) (CC m true)] 25) := ⟨_, rfl⟩
          have hz2 : w2.heap.size = wr.heap.size + 1 := by rw [hw2]; simp
          have hg3 : Below w7.heap.size w7 w2 := by rw [hw2]; exact HG2.out.alloc hwz _
          have hbw2 : Below w1.heap.size w1 w2 := HB7.out.trans (hg3.mono hz7)
          have hcall := HIH.out m w2 (AA m) (CC m) (TV.below (hbw2.mono hBw) _ _ _ (HT.out m hlt)) (by omega) (by have := HC.out; omega)
          unfold vV at hcall
          have hMn : M + (F m).cnt ≤ 2000 := by have := HC.out; have := HM.out; omega
          have HSM := Lib.hid hsm2
          have HC2 := Lib.hid hcall
          have HW2 := Lib.hid hw2
          have HG3 := Lib.hid hg3
          clear hcall hw2 hg3 hbw2 hsm hsm2
          generalize (F m).cnt = cn at *
          go_wp2_with (
            (go_at_call 34)
            go_must (
              (rw [← HW2.out])
              refine HC2.out.mono ?_
              rintro e w3 ⟨rfl, hg4⟩
              have HG4 := Lib.hid (HG3.out.trans (hg4.mono (by omega)))
              clear hg4))
          go_roundw
          case rel => exact ⟨m + 1, M + cn, by omega, by go_num, by go_num, hMn, by rw [HSM.out, HM.out]; omega, HG4.out⟩
          case measure => simp [intOf]; omega
        · obtain rfl : N = m := by omega
          go_wp2
          go_ret
          have e1 := HM.out
          have e2 := HC.out
          refine ⟨congrArg (fun x : Nat => Ending.returned (.int .i64 (x : Int))) (e1.trans e2.symm), HB1.out.trans ((HB7.out.mono (by omega)).trans (HG2.out.mono (by omega)))⟩
end Go.Proofs.YtjjhckbidcdkcaaDoor
