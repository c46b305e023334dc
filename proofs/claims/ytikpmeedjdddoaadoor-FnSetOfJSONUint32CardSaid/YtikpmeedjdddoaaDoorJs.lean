/- (setof.Uint32Sorted | Int8Sorted).AsSlice: the set's values by their order. PRINTED by wip/gensl.py. -/
import Derived.Test.YtikpmeedjdddoaaDoorSb
import Derived.Test.YtikpmeedjdddoaaDoorL39
import Derived.Test.YtikpmeedjdddoaaDoorL43
import Derived.Test.YtikpmeedjdddoaaDoorKb
import Derived.OwnWalk
import Derived.WalkSpells
namespace Go.Proofs.YtikpmeedjdddoaaDoor
open Go.RowKit Go.Maps Go.Sort Go.ChangeShapes Go.WideShapes Go.Shelf
set_option linter.unusedVariables false

/-- What a set reads as, by the list that was laid into it. -/
def KeysI (q : IntKind) (D : DataW Unit) (l : List Int) : Prop := (∀ x, has D (.int q x) = decide (x ∈ l)) ∧ ∃ ks : List Int, ks.Nodup ∧ (∀ x, x ∈ ks ↔ x ∈ l) ∧ Maps.size D = ks.length ∧ ks.length ≤ l.length
theorem KeysI.nil (q : IntKind) : KeysI q (.map []) [] := ⟨fun x => by simp [has], [], List.nodup_nil, fun x => Iff.rfl, rfl, Nat.le_refl _⟩
theorem KeysI.put {q : IntKind} {D : DataW Unit} {l : List Int} (h : KeysI q D l) (hD : IsMap D) (ht : Tidy D) (v : Int) (d : DataW Unit) : KeysI q (D.put (.int q v) d) (l ++ [v]) := by
  obtain ⟨h1, ks, hn, hm, hs, hl⟩ := h
  refine ⟨fun x => has_put_int hD h1 v d x, ?_⟩
  rw [size_put ht d, h1 v]
  by_cases e : v ∈ l
  · refine ⟨ks, hn, fun x => ?_, by simp [e, hs], by rw [List.length_append]; omega⟩
    rw [hm x, List.mem_append, List.mem_singleton]
    exact ⟨.inl, fun hx => hx.elim id fun e' => e' ▸ e⟩
  · refine ⟨ks ++ [v], ?_, fun x => ?_, by simp [e, hs], by rw [List.length_append, List.length_append]; simp; omega⟩
    · refine List.nodup_append.2 ⟨hn, by simp, ?_⟩
      intro a ha b hb
      rw [List.mem_singleton] at hb
      subst hb
      exact fun e' => e ((hm b).1 (e' ▸ ha))
    · rw [List.mem_append, List.mem_append, hm x]
theorem KeysI.len {q : IntKind} {D : DataW Unit} {l ks : List Int} (h : KeysI q D l) (hn : ks.Nodup) (hm : ∀ x, x ∈ ks ↔ x ∈ l) : ks.length = Maps.size D := by
  obtain ⟨_, ks', hn', hm', hs, _⟩ := h
  rw [hs]
  exact ((List.perm_ext_iff_of_nodup hn hn').2 fun x => (hm x).trans (hm' x).symm).length_eq
theorem KeysI.le {q : IntKind} {D : DataW Unit} {l : List Int} (h : KeysI q D l) : Maps.size D ≤ l.length := by
  obtain ⟨_, ks, _, _, hs, hl⟩ := h
  omega
theorem own_formS {w : World} {base n : Nat} {e : TypeId} {size : Nat} {v : Value} {xs : List Value} (h : w.ownsRow base e size v n xs) : ∃ A c, v = .slice A n c := by
  rcases h.2 with ⟨rfl, rfl⟩ | ⟨g, cap, cur, rfl, _⟩
  · exact ⟨none, 0, rfl⟩
  · exact ⟨_, cap, rfl⟩

/-! ### W -/
theorem infoW : (Tryd.prog.info? 24).map (fun i => (i.zero, i.size, i.bytes)) = some (some (.int .u32 0), 1, 4) := by kernel_rfl
theorem lawW : Keyed Tryd.prog 24 := int_keyed Tryd.underlying24
theorem clsW (x y : Int) (W : World) : Calls Tryd.prog 40 #[.int .u32 x, .int .u32 y] W fun e w' => e = .returned (.int .i64 (cfI x y)) ∧ ∃ q, w' = W.drewN q := by
  by_cases h : x < y
  · have hd : decide (x < y) = true := decide_eq_true h
    have hc : cfI x y = -1 := by unfold cfI; rw [if_pos h]
    rw [hc]
    go_enter Tryd.func40, Tryd.ntmps40
    go_wp2
    go_ret
    exact ⟨rfl, 0, rfl⟩
  · have hd : decide (x < y) = false := decide_eq_false h
    have hc : cfI x y = 1 := by unfold cfI; rw [if_neg h]
    rw [hc]
    go_enter Tryd.func40, Tryd.ntmps40
    go_wp2
    go_ret
    exact ⟨rfl, 0, rfl⟩
theorem sortW (W : World) (g c : Nat) (ks : List Int) (hH : Holds (Value.int .u32) W g 0 ks.toArray) (hg : g < W.heap.size) (hs : ks.length ≤ 100000) :
    Calls Tryd.prog 39 #[.slice (some ⟨g, 0, none⟩) ks.length c, .func (.func 40) #[] #[]] W fun e w' =>
      e = .returned (.tuple #[]) ∧ ∃ n os, w' = grow (putRow (Value.int .u32) (Sort.ahead W n) g 0 (ks.mergeSort fun x y => decide (x ≤ y)).toArray) os := by
  have eg : ∀ args w, (callFunc 40 args).run Tryd.prog w = .ok (.enter 40 args) w := enters_of Tryd.func40 (by kernel_rfl) rfl
  have hr : CmpReads Tryd.prog 40 #[] (Value.int .u32) cfI g 0 ks.toArray.size W := fun _ _ _ _ x y => clsW x y _
  have hS := Any.slices_SortFunc_total Tryd.srt39 (Value.int .u32) (fun _ => rfl) cfI swoI 40 #[] g 0 c ks.toArray W eg hr.lays hH hg (by simp; omega) totI
  rw [leI] at hS
  change Calls Tryd.prog 39 _ _ _ at hS
  rw [show ks.toArray.size = ks.length by simp] at hS
  exact hS
set_option maxHeartbeats 8000000 in
set_option maxRecDepth 100000 in
theorem sliceW (w : World) (b n : Nat) (D : DataW Unit) (l : List Int) (hown : w.ownsMap Tryd.prog 24 unitElem b n D) (hD : KeysI .u32 D l) (hl : l.length ≤ 1000) :
    Calls Tryd.prog 25 #[.map (some b)] w fun e w' => ∃ out g c, SetOf l out ∧ e = .returned (.slice (some ⟨g, 0, none⟩) out.length c) ∧ w'.ownsRow w.heap.size 24 1 (.slice (some ⟨g, 0, none⟩) out.length c) out.length (out.map (Value.int .u32)) ∧ Below w.heap.size w w' := by
  obtain ⟨i1, hi1, hz10, hz11, hz12⟩ := info_parts infoW
  obtain ⟨N, hN⟩ : ∃ N, N = Maps.size D := ⟨_, rfl⟩
  have hN1 : N ≤ 1000 := by have := hD.le; omega
  have hblt := hown.lt
  have HN := Lib.hid hN
  have HD := Lib.hid hD
  have HO := Lib.hid hown
  clear hN hD hown
  have qT : ∀ w : World, (binOp .eql 52 (.map (some b)) (.map none)).run Tryd.prog w = .ok (.bool false) w := fun w => run_eql_map_nil w _ _ _ (some b) Tryd.underlying52
  go_enter Tryd.func25, Tryd.ntmps25
  go_wp2_with (first
    | (at_len
       go_must (refine wpList_len_own _ rfl _ _ rfl 24 53 Tryd.underlying52 _ b n D rfl HO.out ?_; rw [← HN.out]))
    | (at_make
       go_must (
         refine wpList_make_own _ rfl _ _ 22 rfl w.heap.size 24 i1 (.int .u32 0) 1 Tryd.underlying22 hi1 hz10 hz11 _ _ _ N rfl rfl rfl (by rw [hz12]; omega) (by simp only [maxLen]; omega) (Nat.le_refl _) ?_
         intro w4 hrow4 hg4
         have HK4 := Lib.hid hrow4
         have HG4 := Lib.hid hg4
         have HM4 : Hid (w4.ownsMap Tryd.prog 24 unitElem b n D) := HO.out.kept hg4 (by simp)
         have hq4 := hg4.size
         clear hrow4 hg4))
    | (at_range
       go_must (
         refine wpList_range_own _ rfl _ _ rfl 24 53 lawW Tryd.underlying52 _ b n D rfl HM4.out ?_
         intro w5 hrg5 hg5 hs5
         have HRG5 := Lib.hid hrg5
         have HG5 := Lib.hid hg5
         clear hrg5 hg5 hs5)))
  go_frame
  go_loopw [3] (fun v wr => ∃ (left : Lit → Bool) (cnt m c : Nat) (A : Option Addr), v = .slice A m c ∧ m ≤ 1000 ∧ Hid (∃ ks : List Int, m = ks.length ∧ wr.ranges Tryd.prog 24 unitElem b w4.heap.size n D left cnt ∧ wr.ownsRow w.heap.size 24 1 (.slice A m c) m (ks.map (Value.int .u32)) ∧ (Value.slice A m c) ≠ .slice none 0 0 ∧ CollI .u32 D left ks ∧ m + cnt ≤ N ∧ Below w.heap.size w wr ∧ w4.heap.size < wr.heap.size))
    (fun _ wr => wr.rangeLeft b w4.heap.size)
  case atStart =>
    exact ⟨_, _, 0, N, _, rfl, by omega, [], rfl, HRG5.out, HK4.out.kept HG5.out (Or.inr (by simp [Value.ownBlock])), by simp, CollI.start .u32 D, by rw [← HN.out]; omega, ((Below.refl _ _).grown HG4.out (Nat.le_refl _) (fun j hj => by cases hj)).grown HG5.out hq4 (fun j hj => by cases hj), HRG5.out.lt⟩
  case round =>
    obtain ⟨left, cnt, m, c, A, rfl, hm, hst⟩ := hrel
    go_wp2_with (
      (at_next)
      go_must (
        refine wpList_next_ranges _ rfl _ rfl 24 lawW unitElem (Value.int .u32) (fun _ : Unit => (.agg #[] : Value)) (fun key kl hk => by obtain ⟨x, rfl, _⟩ := Maps.keyOf_int_inv Tryd.underlying24 hk; exact ⟨x, rfl⟩) (fun v y hv => ⟨(), (unitElem_inv hv).1⟩) b w4.heap.size n D left cnt rfl hst.out.choose_spec.2.1 ?_ ?_))
    · intro hc0 hl0
      obtain ⟨ks, hmk, hrg, hrowk, hnn, hC, hcs, hR, hqr⟩ := hst.out
      obtain ⟨hkn, hkm⟩ := hC.end_ hl0 HD.out.1
      have hso := setOf_sorted hkn hkm (by have := HD.out.le; rw [HD.out.len hkn hkm]; exact this)
      rcases hrowk.2 with ⟨hnil, _⟩ | ⟨gk, capk, cur, hv, hbase, hbk, h1, h2, h3, h4⟩
      · exact absurd hnil hnn
      cases hv
      rw [hmk] at h1 h4
      have hH : Holds (Value.int .u32) wr gk 0 ks.toArray := holds_blockI hbk (by simpa using h4)
      have hgl := (Array.getElem?_eq_some_iff.1 hbk).1
      have hc := sortW wr gk c ks hH hgl (by omega)
      obtain ⟨out, hout⟩ : ∃ out, out = ks.mergeSort (fun x y => decide (x ≤ y)) := ⟨_, rfl⟩
      rw [← hout] at hc hso
      have hlo : out.length = ks.length := by rw [hout]; exact List.length_mergeSort ks
      have hc7 : Calls Tryd.prog 39 #[.slice (some ⟨gk, 0, none⟩) m c, .func (.func 40) #[] #[]] wr fun e w' =>
          e = .returned (.tuple #[]) ∧ Below w.heap.size w w' ∧ w'.ownsRow w.heap.size 24 1 (.slice (some ⟨gk, 0, none⟩) m c) m (out.map (Value.int .u32)) := by
        rw [hmk]
        refine hc.mono ?_
        rintro e w7 ⟨rfl, nn, os, rfl⟩
        exact ⟨rfl, hR.grown (grown_sortedI _) hR.size (fun j hj => by cases hj; exact hbase), own_sortedI hlo hbase hbk h1 h2 h3⟩
      have HC7 := Lib.hid hc7
      have HSO := Lib.hid hso
      have HMO : Hid (m = out.length) := (by omega : m = out.length)
      clear hc7 hso hc hH hbk h1 h2 h3 h4 hrowk hC hrg hkn hkm hout hlo hmk hc0 hl0 hnn
      go_wp2_with (
        (go_at_call 39)
        go_must (
          (refine HC7.out.mono ?_)
          rintro e w7 ⟨rfl, hb7, ho7⟩
          have HB7 := Lib.hid hb7
          have HO7 := Lib.hid ho7
          clear hb7 ho7))
      go_ret
      exact ⟨out, gk, c, HSO.out, by rw [← HMO.out]; rfl, by rw [← HMO.out]; exact HO7.out, HB7.out⟩
    · intro x cu kl y w6 cnt6 hkey hlk hv hat hrg6 hlt6 hg6 hs6 hen
      obtain ⟨ks, hmk, hrg, hrowk, hnn, hC, hcs, hR, hqr⟩ := hst.out
      obtain ⟨x', ex, rfl, _⟩ := Maps.keyOf_int_inv Tryd.underlying24 hkey
      cases ex
      have hrow2 := hrowk.kept hg6 (Or.inr (row_ne_iter hrowk hrg).symm)
      have HROW2 := Lib.hid hrow2
      have HRG6 := Lib.hid hrg6
      have HCL : Hid (CollI .u32 D (fun z => left z && !z.sameKey (.int .u32 x)) (ks ++ [x])) := hC.step hlk hat
      have hs6' : wr.heap.size ≤ w6.heap.size := hg6.size
      have hcnt : m + cnt6 + 1 ≤ N := by omega
      have HLE : Hid (wr.rangeLeft b w4.heap.size = cnt) := hrg.left_eq
      have HRR : Hid (Below w.heap.size w w6) := hR.grown hg6 hR.size (fun j hj => by cases hj; exact hq4)
      clear hs6 hrow2 hrg6 hg6 hC hrowk hrg hlk hat hkey hv hcs hR hnn
      go_wp2_with (
        (at_builtin)
        go_must (
          refine wpList_append_own _ rfl _ _ 22 rfl w.heap.size 24 i1 (.int .u32 0) 1 4 Tryd.underlying22 hi1 hz10 hz11 hz12 rfl (by decide) _ _ _ rfl (HROW2.out.alloc _) ⟨w6.heap.size, 0, none⟩ 1 1 [.int .u32 x] rfl rfl (cell_one_new _ _ _) (by simp [Value.oneCell']) (by simp only [maxLen]; omega) (by omega) (by simp; omega) ?_
          intro v' w8 hown8 hg8 hnil8
          obtain ⟨A8, c8, rfl⟩ := own_formS hown8
          have HOWN8 := Lib.hid hown8
          have HG8 := Lib.hid hg8
          have HNIL8 := Lib.hid hnil8
          clear hown8 hg8 hnil8
          go_frame))
      have hrg8 := (HRG6.out.alloc _).kept HG8.out (row_ne_low HROW2.out (by omega)) (row_ne_iter HROW2.out HRG6.out)
      go_roundw
      case rel =>
        refine ⟨_, cnt6, m + 1, c8, A8, rfl, by omega, ks ++ [x], by simp; omega, hrg8, by simpa using HOWN8.out, fun hv' => by have := (HNIL8.out.1 hv').2; omega, HCL.out, by omega, ?_, ?_⟩
        · exact (HRR.out.alloc HRR.out.size _).grown HG8.out (by have := HRR.out.size; simp; omega) (fun j hj => (HROW2.out.lt j hj).1)
        · exact hrg8.lt
      case measure => rw [hrg8.left_eq, HLE.out]; exact hlt6

/-! ### Y -/
theorem infoY : (Tryd.prog.info? 36).map (fun i => (i.zero, i.size, i.bytes)) = some (some (.int .i8 0), 1, 1) := by kernel_rfl
theorem lawY : Keyed Tryd.prog 36 := int_keyed Tryd.underlying36
theorem clsY (x y : Int) (W : World) : Calls Tryd.prog 44 #[.int .i8 x, .int .i8 y] W fun e w' => e = .returned (.int .i64 (cfI x y)) ∧ ∃ q, w' = W.drewN q := by
  by_cases h : x < y
  · have hd : decide (x < y) = true := decide_eq_true h
    have hc : cfI x y = -1 := by unfold cfI; rw [if_pos h]
    rw [hc]
    go_enter Tryd.func44, Tryd.ntmps44
    go_wp2
    go_ret
    exact ⟨rfl, 0, rfl⟩
  · have hd : decide (x < y) = false := decide_eq_false h
    have hc : cfI x y = 1 := by unfold cfI; rw [if_neg h]
    rw [hc]
    go_enter Tryd.func44, Tryd.ntmps44
    go_wp2
    go_ret
    exact ⟨rfl, 0, rfl⟩
theorem sortY (W : World) (g c : Nat) (ks : List Int) (hH : Holds (Value.int .i8) W g 0 ks.toArray) (hg : g < W.heap.size) (hs : ks.length ≤ 100000) :
    Calls Tryd.prog 43 #[.slice (some ⟨g, 0, none⟩) ks.length c, .func (.func 44) #[] #[]] W fun e w' =>
      e = .returned (.tuple #[]) ∧ ∃ n os, w' = grow (putRow (Value.int .i8) (Sort.ahead W n) g 0 (ks.mergeSort fun x y => decide (x ≤ y)).toArray) os := by
  have eg : ∀ args w, (callFunc 44 args).run Tryd.prog w = .ok (.enter 44 args) w := enters_of Tryd.func44 (by kernel_rfl) rfl
  have hr : CmpReads Tryd.prog 44 #[] (Value.int .i8) cfI g 0 ks.toArray.size W := fun _ _ _ _ x y => clsY x y _
  have hS := Any.slices_SortFunc_total Tryd.srt43 (Value.int .i8) (fun _ => rfl) cfI swoI 44 #[] g 0 c ks.toArray W eg hr.lays hH hg (by simp; omega) totI
  rw [leI] at hS
  change Calls Tryd.prog 43 _ _ _ at hS
  rw [show ks.toArray.size = ks.length by simp] at hS
  exact hS
set_option maxHeartbeats 8000000 in
set_option maxRecDepth 100000 in
theorem sliceY (w : World) (b n : Nat) (D : DataW Unit) (l : List Int) (hown : w.ownsMap Tryd.prog 36 unitElem b n D) (hD : KeysI .i8 D l) (hl : l.length ≤ 1000) :
    Calls Tryd.prog 27 #[.map (some b)] w fun e w' => ∃ out g c, SetOf l out ∧ e = .returned (.slice (some ⟨g, 0, none⟩) out.length c) ∧ w'.ownsRow w.heap.size 36 1 (.slice (some ⟨g, 0, none⟩) out.length c) out.length (out.map (Value.int .i8)) ∧ Below w.heap.size w w' := by
  obtain ⟨i1, hi1, hz10, hz11, hz12⟩ := info_parts infoY
  obtain ⟨N, hN⟩ : ∃ N, N = Maps.size D := ⟨_, rfl⟩
  have hN1 : N ≤ 1000 := by have := hD.le; omega
  have hblt := hown.lt
  have HN := Lib.hid hN
  have HD := Lib.hid hD
  have HO := Lib.hid hown
  clear hN hD hown
  have qT : ∀ w : World, (binOp .eql 64 (.map (some b)) (.map none)).run Tryd.prog w = .ok (.bool false) w := fun w => run_eql_map_nil w _ _ _ (some b) Tryd.underlying64
  go_enter Tryd.func27, Tryd.ntmps27
  go_wp2_with (first
    | (at_len
       go_must (refine wpList_len_own _ rfl _ _ rfl 36 53 Tryd.underlying64 _ b n D rfl HO.out ?_; rw [← HN.out]))
    | (at_make
       go_must (
         refine wpList_make_own _ rfl _ _ 34 rfl w.heap.size 36 i1 (.int .i8 0) 1 Tryd.underlying34 hi1 hz10 hz11 _ _ _ N rfl rfl rfl (by rw [hz12]; omega) (by simp only [maxLen]; omega) (Nat.le_refl _) ?_
         intro w4 hrow4 hg4
         have HK4 := Lib.hid hrow4
         have HG4 := Lib.hid hg4
         have HM4 : Hid (w4.ownsMap Tryd.prog 36 unitElem b n D) := HO.out.kept hg4 (by simp)
         have hq4 := hg4.size
         clear hrow4 hg4))
    | (at_range
       go_must (
         refine wpList_range_own _ rfl _ _ rfl 36 53 lawY Tryd.underlying64 _ b n D rfl HM4.out ?_
         intro w5 hrg5 hg5 hs5
         have HRG5 := Lib.hid hrg5
         have HG5 := Lib.hid hg5
         clear hrg5 hg5 hs5)))
  go_frame
  go_loopw [3] (fun v wr => ∃ (left : Lit → Bool) (cnt m c : Nat) (A : Option Addr), v = .slice A m c ∧ m ≤ 1000 ∧ Hid (∃ ks : List Int, m = ks.length ∧ wr.ranges Tryd.prog 36 unitElem b w4.heap.size n D left cnt ∧ wr.ownsRow w.heap.size 36 1 (.slice A m c) m (ks.map (Value.int .i8)) ∧ (Value.slice A m c) ≠ .slice none 0 0 ∧ CollI .i8 D left ks ∧ m + cnt ≤ N ∧ Below w.heap.size w wr ∧ w4.heap.size < wr.heap.size))
    (fun _ wr => wr.rangeLeft b w4.heap.size)
  case atStart =>
    exact ⟨_, _, 0, N, _, rfl, by omega, [], rfl, HRG5.out, HK4.out.kept HG5.out (Or.inr (by simp [Value.ownBlock])), by simp, CollI.start .i8 D, by rw [← HN.out]; omega, ((Below.refl _ _).grown HG4.out (Nat.le_refl _) (fun j hj => by cases hj)).grown HG5.out hq4 (fun j hj => by cases hj), HRG5.out.lt⟩
  case round =>
    obtain ⟨left, cnt, m, c, A, rfl, hm, hst⟩ := hrel
    go_wp2_with (
      (at_next)
      go_must (
        refine wpList_next_ranges _ rfl _ rfl 36 lawY unitElem (Value.int .i8) (fun _ : Unit => (.agg #[] : Value)) (fun key kl hk => by obtain ⟨x, rfl, _⟩ := Maps.keyOf_int_inv Tryd.underlying36 hk; exact ⟨x, rfl⟩) (fun v y hv => ⟨(), (unitElem_inv hv).1⟩) b w4.heap.size n D left cnt rfl hst.out.choose_spec.2.1 ?_ ?_))
    · intro hc0 hl0
      obtain ⟨ks, hmk, hrg, hrowk, hnn, hC, hcs, hR, hqr⟩ := hst.out
      obtain ⟨hkn, hkm⟩ := hC.end_ hl0 HD.out.1
      have hso := setOf_sorted hkn hkm (by have := HD.out.le; rw [HD.out.len hkn hkm]; exact this)
      rcases hrowk.2 with ⟨hnil, _⟩ | ⟨gk, capk, cur, hv, hbase, hbk, h1, h2, h3, h4⟩
      · exact absurd hnil hnn
      cases hv
      rw [hmk] at h1 h4
      have hH : Holds (Value.int .i8) wr gk 0 ks.toArray := holds_blockI hbk (by simpa using h4)
      have hgl := (Array.getElem?_eq_some_iff.1 hbk).1
      have hc := sortY wr gk c ks hH hgl (by omega)
      obtain ⟨out, hout⟩ : ∃ out, out = ks.mergeSort (fun x y => decide (x ≤ y)) := ⟨_, rfl⟩
      rw [← hout] at hc hso
      have hlo : out.length = ks.length := by rw [hout]; exact List.length_mergeSort ks
      have hc7 : Calls Tryd.prog 43 #[.slice (some ⟨gk, 0, none⟩) m c, .func (.func 44) #[] #[]] wr fun e w' =>
          e = .returned (.tuple #[]) ∧ Below w.heap.size w w' ∧ w'.ownsRow w.heap.size 36 1 (.slice (some ⟨gk, 0, none⟩) m c) m (out.map (Value.int .i8)) := by
        rw [hmk]
        refine hc.mono ?_
        rintro e w7 ⟨rfl, nn, os, rfl⟩
        exact ⟨rfl, hR.grown (grown_sortedI _) hR.size (fun j hj => by cases hj; exact hbase), own_sortedI hlo hbase hbk h1 h2 h3⟩
      have HC7 := Lib.hid hc7
      have HSO := Lib.hid hso
      have HMO : Hid (m = out.length) := (by omega : m = out.length)
      clear hc7 hso hc hH hbk h1 h2 h3 h4 hrowk hC hrg hkn hkm hout hlo hmk hc0 hl0 hnn
      go_wp2_with (
        (go_at_call 43)
        go_must (
          (refine HC7.out.mono ?_)
          rintro e w7 ⟨rfl, hb7, ho7⟩
          have HB7 := Lib.hid hb7
          have HO7 := Lib.hid ho7
          clear hb7 ho7))
      go_ret
      exact ⟨out, gk, c, HSO.out, by rw [← HMO.out]; rfl, by rw [← HMO.out]; exact HO7.out, HB7.out⟩
    · intro x cu kl y w6 cnt6 hkey hlk hv hat hrg6 hlt6 hg6 hs6 hen
      obtain ⟨ks, hmk, hrg, hrowk, hnn, hC, hcs, hR, hqr⟩ := hst.out
      obtain ⟨x', ex, rfl, _⟩ := Maps.keyOf_int_inv Tryd.underlying36 hkey
      cases ex
      have hrow2 := hrowk.kept hg6 (Or.inr (row_ne_iter hrowk hrg).symm)
      have HROW2 := Lib.hid hrow2
      have HRG6 := Lib.hid hrg6
      have HCL : Hid (CollI .i8 D (fun z => left z && !z.sameKey (.int .i8 x)) (ks ++ [x])) := hC.step hlk hat
      have hs6' : wr.heap.size ≤ w6.heap.size := hg6.size
      have hcnt : m + cnt6 + 1 ≤ N := by omega
      have HLE : Hid (wr.rangeLeft b w4.heap.size = cnt) := hrg.left_eq
      have HRR : Hid (Below w.heap.size w w6) := hR.grown hg6 hR.size (fun j hj => by cases hj; exact hq4)
      clear hs6 hrow2 hrg6 hg6 hC hrowk hrg hlk hat hkey hv hcs hR hnn
      go_wp2_with (
        (at_builtin)
        go_must (
          refine wpList_append_own _ rfl _ _ 34 rfl w.heap.size 36 i1 (.int .i8 0) 1 1 Tryd.underlying34 hi1 hz10 hz11 hz12 rfl (by decide) _ _ _ rfl (HROW2.out.alloc _) ⟨w6.heap.size, 0, none⟩ 1 1 [.int .i8 x] rfl rfl (cell_one_new _ _ _) (by simp [Value.oneCell']) (by simp only [maxLen]; omega) (by omega) (by simp; omega) ?_
          intro v' w8 hown8 hg8 hnil8
          obtain ⟨A8, c8, rfl⟩ := own_formS hown8
          have HOWN8 := Lib.hid hown8
          have HG8 := Lib.hid hg8
          have HNIL8 := Lib.hid hnil8
          clear hown8 hg8 hnil8
          go_frame))
      have hrg8 := (HRG6.out.alloc _).kept HG8.out (row_ne_low HROW2.out (by omega)) (row_ne_iter HROW2.out HRG6.out)
      go_roundw
      case rel =>
        refine ⟨_, cnt6, m + 1, c8, A8, rfl, by omega, ks ++ [x], by simp; omega, hrg8, by simpa using HOWN8.out, fun hv' => by have := (HNIL8.out.1 hv').2; omega, HCL.out, by omega, ?_, ?_⟩
        · exact (HRR.out.alloc HRR.out.size _).grown HG8.out (by have := HRR.out.size; simp; omega) (fun j hj => (HROW2.out.lt j hj).1)
        · exact hrg8.lt
      case measure => rw [hrg8.left_eq, HLE.out]; exact hlt6
end Go.Proofs.YtikpmeedjdddoaaDoor
