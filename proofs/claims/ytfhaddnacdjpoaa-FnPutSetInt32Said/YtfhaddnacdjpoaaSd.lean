/- (setof.ByteSorted | setof.Int32Sorted).MarshalMsg: the head of an array, the set's values by their order. PRINTED by wip/gensd.py. -/
import Derived.Test.YtfhaddnacdjpoaaSb
import Derived.Test.YtfhaddnacdjpoaaSg
import Derived.Test.YtfhaddnacdjpoaaL20
import Derived.Test.YtfhaddnacdjpoaaL27
import Derived.OwnWalk
import Derived.WalkSpells
namespace Go.Proofs.Ytfhaddnacdjpoaa
open Go.RowKit Go.Maps Go.Sort Go.ChangeShapes Go.WideShapes Go.Shelf
set_option linter.unusedVariables false

/-- What a set reads as, by the list that was laid into it. -/
def KeysI (q : IntKind) (D : DataW Unit) (l : List Int) : Prop := (∀ x, has D (.int q x) = decide (x ∈ l)) ∧ ∃ ks : List Int, ks.Nodup ∧ (∀ x, x ∈ ks ↔ x ∈ l) ∧ Maps.size D = ks.length ∧ ks.length ≤ l.length
theorem KeysI.nil (q : IntKind) : KeysI q (.map []) [] := ⟨fun x => by simp [has], [], List.nodup_nil, fun x => Iff.rfl, rfl, Nat.le_refl _⟩
theorem KeysI.put {q : IntKind} {D : DataW Unit} {l : List Int} (h : KeysI q D l) (hD : IsMap D) (ht : Tidy D) (v : Int) (d : DataW Unit) : KeysI q (D.put (.int q v) d) (l ++ [v]) := by
  obtain ⟨h1, ks, hn, hm, hs, hl⟩ := h
  refine ⟨fun x => has_put_int hD h1 v d x, ?_⟩
  rw [size_put ht d, h1 v]
  by_cases e : v ∈ l
  · refine ⟨ks, hn, fun x => ?_, by simp [e, hs], by rw [List.length_append]; omega⟩
    rw [hm x, List.mem_append, List.mem_singleton]
    exact ⟨.inl, fun hx => hx.elim id fun e' => e' ▸ e⟩
  · refine ⟨ks ++ [v], ?_, fun x => ?_, by simp [e, hs], by rw [List.length_append, List.length_append]; simp; omega⟩
    · refine List.nodup_append.2 ⟨hn, by simp, ?_⟩
      intro a ha b hb
      rw [List.mem_singleton] at hb
      subst hb
      exact fun e' => e ((hm b).1 (e' ▸ ha))
    · rw [List.mem_append, List.mem_append, hm x]
theorem KeysI.len {q : IntKind} {D : DataW Unit} {l ks : List Int} (h : KeysI q D l) (hn : ks.Nodup) (hm : ∀ x, x ∈ ks ↔ x ∈ l) : ks.length = Maps.size D := by
  obtain ⟨_, ks', hn', hm', hs, _⟩ := h
  rw [hs]
  exact ((List.perm_ext_iff_of_nodup hn hn').2 fun x => (hm x).trans (hm' x).symm).length_eq
theorem KeysI.le {q : IntKind} {D : DataW Unit} {l : List Int} (h : KeysI q D l) : Maps.size D ≤ l.length := by
  obtain ⟨_, ks, _, _, hs, hl⟩ := h
  omega
theorem ownsMap_below {w w' : World} {P : Program} {k : TypeId} {R : Value → Option (DataW Unit × List MemPlace)} {b n B : Nat} {D : DataW Unit} (h : w.ownsMap P k R b n D) (hb : Below B w w') (hlt : b < B) : w'.ownsMap P k R b n D := by
  obtain ⟨es, clock, hb', F, hs, hD⟩ := h
  exact ⟨es, clock, (hb.block b hlt).trans hb', F, hs, hD⟩
theorem encU_len9 (u : Int) : (encU u).length ≤ 9 := by
  unfold encU
  repeat' split
  all_goals simp [be_length]
theorem encI_len9 (u : Int) : (encI u).length ≤ 9 := by
  unfold encI
  repeat' split
  all_goals simp [be_length]
theorem flat_snoc (enc : Int → List Int) (l : List Int) (k : Nat) (h : k < l.length) : (l.take (k + 1)).flatMap enc = (l.take k).flatMap enc ++ enc (l.getD k 0) := by
  have e : l.take (k + 1) = l.take k ++ [l.getD k 0] := by
    rw [List.take_add_one, List.getElem?_eq_getElem h, List.getD, List.getElem?_eq_getElem h]
    rfl
  rw [e, List.flatMap_append, List.flatMap_cons, List.flatMap_nil, List.append_nil]
theorem own_formS {w : World} {base n : Nat} {e : TypeId} {size : Nat} {v : Value} {xs : List Value} (h : w.ownsRow base e size v n xs) : ∃ A c, v = .slice A n c := by
  rcases h.2 with ⟨rfl, rfl⟩ | ⟨g, cap, cur, rfl, _⟩
  · exact ⟨none, 0, rfl⟩
  · exact ⟨_, cap, rfl⟩
theorem Row8.below {w0 W W' : World} {B C g : Nat} {cs : List Value} {l : List Int} (h : Row8 w0 W B g cs l) (hb : Below C W W') (hC : g < C) : Row8 w0 W' B g cs l := by
  obtain ⟨h1, h2, h3, h4, h5, h6, h7⟩ := h
  exact ⟨h1.trans (hb.mono (by omega)), h2, Nat.le_trans h3 hb.size, h4.below hb hC, h5, h6, h7⟩
theorem ownsMap_below2 {w0 W W' : World} {P : Program} {k : TypeId} {R : Value → Option (DataW Unit × List MemPlace)} {b n B g g' : Nat} {cs cs' : List Value} {l l' : List Int} {D : DataW Unit} (h : Row8 w0 W B g cs l) (h' : Row8 w0 W' B g' cs' l') (ho : W.ownsMap P k R b n D) (hlt : b < B) : W'.ownsMap P k R b n D := by
  obtain ⟨es, clock, hb', F, hs, hD⟩ := ho
  exact ⟨es, clock, (h'.1.block b hlt).trans ((h.1.block b hlt).symm.trans hb'), F, hs, hD⟩

/-! ### B -/
theorem infoB : (Try.prog.info? 5).map (fun i => (i.zero, i.size, i.bytes)) = some (some (.int .u8 0), 1, 1) := by kernel_rfl
theorem lawB : Keyed Try.prog 5 := int_keyed Try.underlying5
theorem clsB (x y : Int) (W : World) : Calls Try.prog 21 #[.int .u8 x, .int .u8 y] W fun e w' => e = .returned (.int .i64 (cfI x y)) ∧ ∃ q, w' = W.drewN q := by
  by_cases h : x < y
  · have hd : decide (x < y) = true := decide_eq_true h
    have hc : cfI x y = -1 := by unfold cfI; rw [if_pos h]
    rw [hc]
    go_enter Try.func21, Try.ntmps21
    go_wp2
    go_ret
    exact ⟨rfl, 0, rfl⟩
  · have hd : decide (x < y) = false := decide_eq_false h
    have hc : cfI x y = 1 := by unfold cfI; rw [if_neg h]
    rw [hc]
    go_enter Try.func21, Try.ntmps21
    go_wp2
    go_ret
    exact ⟨rfl, 0, rfl⟩
theorem sortB (W : World) (g c : Nat) (ks : List Int) (hH : Holds (Value.int .u8) W g 0 ks.toArray) (hg : g < W.heap.size) (hs : ks.length ≤ 100000) :
    Calls Try.prog 20 #[.slice (some ⟨g, 0, none⟩) ks.length c, .func (.func 21) #[] #[]] W fun e w' =>
      e = .returned (.tuple #[]) ∧ ∃ n os, w' = grow (putRow (Value.int .u8) (Sort.ahead W n) g 0 (ks.mergeSort fun x y => decide (x ≤ y)).toArray) os := by
  have eg : ∀ args w, (callFunc 21 args).run Try.prog w = .ok (.enter 21 args) w := enters_of Try.func21 (by kernel_rfl) rfl
  have hr : CmpReads Try.prog 21 #[] (Value.int .u8) cfI g 0 ks.toArray.size W := fun _ _ _ _ x y => clsB x y _
  have hS := Any.slices_SortFunc_total Try.srt20 (Value.int .u8) (fun _ => rfl) cfI swoI 21 #[] g 0 c ks.toArray W eg hr.lays hH hg (by simp; omega) totI
  rw [leI] at hS
  change Calls Try.prog 20 _ _ _ at hS
  rw [show ks.toArray.size = ks.length by simp] at hS
  exact hS
set_option maxHeartbeats 2000000 in
set_option maxRecDepth 100000 in
theorem msgsizeB (w : World) (b n : Nat) (D : DataW Unit) (hown : w.ownsMap Try.prog 5 unitElem b n D) (hmax : Maps.size D ≤ 100000) :
    Calls Try.prog 19 #[.map (some b)] w fun e w' => e = .returned (.int .i64 (5 + (Maps.size D : Int) * 2)) ∧ w' = w := by
  obtain ⟨N, hN⟩ : ∃ N, N = Maps.size D := ⟨_, rfl⟩
  rw [← hN] at hmax ⊢
  have H := Lib.hid hown
  have HN := Lib.hid hN
  clear hown hN
  have hw1 : IntKind.i64.wrap ((N : Int) * 2) = (N : Int) * 2 := by rw [IntKind.wrap_i64]; omega
  have hw2 : IntKind.i64.wrap (5 + (N : Int) * 2) = 5 + (N : Int) * 2 := by rw [IntKind.wrap_i64]; omega
  have qT : ∀ w : World, (binOp .eql 37 (.map (some b)) (.map none)).run Try.prog w = .ok (.bool false) w := fun w => run_eql_map_nil w _ _ _ (some b) Try.underlying37
  go_enter Try.func19, Try.ntmps19
  go_wp2_with (
    (at_len)
    go_must (
      refine wpList_len_own _ rfl _ _ rfl 5 38 Try.underlying37 _ b n D rfl H.out ?_
      rw [← HN.out]))
  go_ret
  exact ⟨by first | rfl | simp [hw1, hw2], rfl⟩

set_option maxHeartbeats 8000000 in
set_option maxRecDepth 100000 in
theorem marshalB (w0 w : World) (B b g n : Nat) (D : DataW Unit) (cs : List Value) (l0 l : List Int) (hrow : Row8 w0 w B g cs l0) (hs : l0.length ≤ 100000) (hown : w.ownsMap Try.prog 5 unitElem b n D) (hb : b < B) (hD : KeysI .u8 D l) (h0 : l ≠ []) (hl : l.length ≤ 1000) (hwf : ∀ x ∈ l, 0 ≤ x ∧ x ≤ 255) :
    Calls Try.prog 11 #[.map (some b), .slice (some ⟨g, 0, none⟩) l0.length cs.length] w fun e w' => ∃ g' cs' out, SetOf l out ∧ e = .returned (.tuple #[.slice (some ⟨g', 0, none⟩) (l0 ++ (encA out.length ++ out.flatMap encU)).length cs'.length, .nilIface]) ∧
      Row8 w0 w' B g' cs' (l0 ++ (encA out.length ++ out.flatMap encU)) := by
  obtain ⟨i1, hi1, hz10, hz11, hz12⟩ := info_parts infoB
  obtain ⟨N, hN⟩ : ∃ N, N = Maps.size D := ⟨_, rfl⟩
  have hN1 : N ≤ 1000 := by have := hD.le; omega
  have hN0 : N ≠ 0 := by
    intro e
    obtain ⟨_, ks, _, hm, hsz, _⟩ := hD
    have hk : ks = [] := List.eq_nil_of_length_eq_zero (by omega)
    obtain ⟨x, hx⟩ := List.exists_mem_of_ne_nil _ h0
    have := (hm x).2 hx
    rw [hk] at this
    cases this
  have hms := msgsizeB w b n D hown (by omega)
  rw [← hN] at hms
  have HMS := Lib.hid hms
  have HN := Lib.hid hN
  have HD := Lib.hid hD
  have HO := Lib.hid hown
  have HR := Lib.hid hrow
  have HWF := Lib.hid hwf
  have hqb := hrow.2.2.1
  clear hms hN hD hown hrow h0 hwf
  have hd0 : decide ((N : Int) = 0) = false := decide_eq_false (by omega)
  have hw32 : IntKind.u32.wrap (N : Int) = N := by rw [IntKind.wrap_u32]; omega
  have qT : ∀ w : World, (binOp .eql 37 (.map (some b)) (.map none)).run Try.prog w = .ok (.bool false) w := fun w => run_eql_map_nil w _ _ _ (some b) Try.underlying37
  go_enter Try.func11, Try.ntmps11
  go_wp2_with (first
    | (at_len
       go_must (
         first
         | (refine wpList_len_own _ rfl _ _ rfl 5 38 Try.underlying37 _ b n D rfl HM3.out ?_; rw [← HN.out])
         | (refine wpList_len_own _ rfl _ _ rfl 5 38 Try.underlying37 _ b n D rfl HM2.out ?_; rw [← HN.out])
         | (refine wpList_len_own _ rfl _ _ rfl 5 38 Try.underlying37 _ b n D rfl HO.out ?_; rw [← HN.out])))
    | (go_at_call 19; refine HMS.out.mono ?_; rintro e w' ⟨rfl, rfl⟩)
    | (go_at_call 18
       go_must (
         (refine (setEnsure_calls w0 _ B g (5 + N * 2) cs l0 _ (by simp) HR.out (by omega) (by omega)).mono ?_)
         rintro e w2 ⟨g2, cs2, rfl, hb2, hn2, hm2, ht2, hB2, hbel2⟩
         have hq2 := hbel2.size
         have HR2 : Hid (Row8 w0 w2 B g2 cs2 l0) := ⟨hbel2, hB2, Nat.le_of_lt (Nat.lt_of_le_of_lt hB2 hb2.lt), hb2, hn2, hm2, ht2⟩
         have HM2 : Hid (w2.ownsMap Try.prog 5 unitElem b n D) := ownsMap_below2 HR.out HR2.out HO.out hb
         clear hb2 hn2 hm2 ht2 hbel2))
    | (go_at_call 17
       go_must (
         (refine (AppendArr_b w0 _ B g2 N cs2 l0 HR2.out (by omega) (by omega)).mono ?_)
         rintro e w3 ⟨g3, cs3, rfl, hb3, hn3, hm3, ht3, hB3, hbel3⟩
         have HR3 : Hid (Row8 w0 w3 B g3 cs3 (l0 ++ encA N)) := ⟨hbel3, hB3, Nat.le_of_lt (Nat.lt_of_le_of_lt hB3 hb3.lt), hb3, hn3, hm3, ht3⟩
         have HM3 : Hid (w3.ownsMap Try.prog 5 unitElem b n D) := ownsMap_below2 HR2.out HR3.out HM2.out hb
         clear hb3 hn3 hm3 ht3 hbel3))
    | (at_make
       go_must (
         refine wpList_make_own _ rfl _ _ 22 rfl w3.heap.size 5 i1 (.int .u8 0) 1 Try.underlying22 hi1 hz10 hz11 _ _ _ N rfl rfl rfl (by rw [hz12]; omega) (by simp only [maxLen]; omega) (Nat.le_refl _) ?_
         intro w4 hrow4 hg4
         have HK4 := Lib.hid hrow4
         have HG4 := Lib.hid hg4
         have HR4 : Hid (Row8 w0 w4 B g3 cs3 (l0 ++ encA N)) := HR3.out.grown hg4 (fun _ h => by cases h)
         have HM4 : Hid (w4.ownsMap Try.prog 5 unitElem b n D) := HM3.out.kept hg4 (by simp)
         have hq4 := hg4.size
         clear hrow4 hg4))
    | (at_range
       go_must (
         refine wpList_range_own _ rfl _ _ rfl 5 38 lawB Try.underlying37 _ b n D rfl HM4.out ?_
         intro w5 hrg5 hg5 hs5
         have HRG5 := Lib.hid hrg5
         have HG5 := Lib.hid hg5
         have HR5 : Hid (Row8 w0 w5 B g3 cs3 (l0 ++ encA N)) := HR4.out.grown hg5 (fun _ h => by cases h)
         clear hrg5 hg5 hs5)))
  go_frame
  have hqB3 := HR3.out.2.2.1
  have hgl3 : g3 < w3.heap.size := HR3.out.2.2.2.1.lt
  go_loopw [6] (fun v wr => ∃ (left : Lit → Bool) (cnt m c : Nat) (A : Option Addr), v = .slice A m c ∧ m ≤ 1000 ∧ Hid (∃ ks : List Int, m = ks.length ∧ wr.ranges Try.prog 5 unitElem b w4.heap.size n D left cnt ∧ wr.ownsRow w3.heap.size 5 1 (.slice A m c) m (ks.map (Value.int .u8)) ∧ (Value.slice A m c) ≠ .slice none 0 0 ∧ CollI .u8 D left ks ∧ m + cnt ≤ N ∧ Row8 w0 wr B g3 cs3 (l0 ++ encA N) ∧ w4.heap.size < wr.heap.size))
    (fun _ wr => wr.rangeLeft b w4.heap.size)
  case atStart =>
    exact ⟨_, _, 0, N, _, rfl, by omega, [], rfl, HRG5.out, HK4.out.kept HG5.out (Or.inr (by simp [Value.ownBlock])), by simp, CollI.start .u8 D, by rw [← HN.out]; omega, HR5.out, HRG5.out.lt⟩
  case round =>
    obtain ⟨left, cnt, m, c, A, rfl, hm, hst⟩ := hrel
    go_wp2_with (
      (at_next)
      go_must (
        refine wpList_next_ranges _ rfl _ rfl 5 lawB unitElem (Value.int .u8) (fun _ : Unit => (.agg #[] : Value)) (fun key kl hk => by obtain ⟨x, rfl, _⟩ := Maps.keyOf_int_inv Try.underlying5 hk; exact ⟨x, rfl⟩) (fun v y hv => ⟨(), (unitElem_inv hv).1⟩) b w4.heap.size n D left cnt rfl hst.out.choose_spec.2.1 ?_ ?_))
    · intro hc0 hl0
      obtain ⟨ks, hmk, hrg, hrowk, hnn, hC, hcs, hR, hqr⟩ := hst.out
      obtain ⟨hkn, hkm⟩ := hC.end_ hl0 HD.out.1
      have hlen : ks.length = N := (HD.out.len hkn hkm).trans HN.out.symm
      have hso := setOf_sorted hkn hkm (by have := HD.out.le; rw [HD.out.len hkn hkm]; exact this)
      rcases hrowk.2 with ⟨hnil, _⟩ | ⟨gk, capk, cur, hv, hbase, hbk, h1, h2, h3, h4⟩
      · exact absurd hnil hnn
      cases hv
      rw [hmk] at h1 h4
      have hH : Holds (Value.int .u8) wr gk 0 ks.toArray := holds_blockI hbk (by simpa using h4)
      have hgl := (Array.getElem?_eq_some_iff.1 hbk).1
      have hc := sortB wr gk c ks hH hgl (by omega)
      obtain ⟨out, hout⟩ : ∃ out, out = ks.mergeSort (fun x y => decide (x ≤ y)) := ⟨_, rfl⟩
      rw [← hout] at hc hso
      have hlo : out.length = ks.length := by rw [hout]; exact List.length_mergeSort ks
      have hc7 : Calls Try.prog 20 #[.slice (some ⟨gk, 0, none⟩) N c, .func (.func 21) #[] #[]] wr fun e w' =>
          e = .returned (.tuple #[]) ∧ wr.grownBy w' (some gk) ∧ Holds (Value.int .u8) w' gk 0 out.toArray ∧ gk < w'.heap.size := by
        rw [← hlen]
        refine hc.mono ?_
        rintro e w7 ⟨rfl, nn, os, rfl⟩
        refine ⟨rfl, grown_sortedI _, holds_blockI (heap_sortedI _ hbk) ?_, Nat.lt_of_lt_of_le hgl (grown_sortedI (enc := Value.int .u8) (w := wr) (g := gk) (n := nn) (os := os) out.toArray).size⟩
        exact take_putI cur out (by omega)
      have HC7 := Lib.hid hc7
      have HSO := Lib.hid hso
      have hmN : m = N := by omega
      have hoN : out.length = N := by omega
      have HON := Lib.hid hoN
      clear hc7 hso hc hH hbk h1 h2 h3 h4 hrowk hC hrg hkn hkm hout hlo hlen hmk hc0 hl0 hnn
      subst hmN
      clear hoN
      go_wp2_with (
        (go_at_call 20)
        go_must (
          (refine HC7.out.mono ?_)
          rintro e w7 ⟨rfl, hg7, hH7, hq7⟩
          have HG7 := Lib.hid hg7
          have HH7 := Lib.hid hH7
          have HR7 : Hid (Row8 w0 w7 B g3 cs3 (l0 ++ encA m)) := hR.grown hg7 (fun j hj => by cases hj; exact ⟨by omega, by omega⟩)
          clear hg7 hH7))
      go_loopw [1, 45] (fun v i wr => ∃ (k gb cb M : Nat), k ≤ m ∧ i = .int .i64 (k : Nat) ∧ v = .slice (some ⟨gb, 0, none⟩) M cb ∧ M ≤ 110000 + 9 * k ∧ Hid (∃ csb : List Value, cb = csb.length ∧ M = (l0 ++ (encA m ++ (out.take k).flatMap encU)).length ∧ gb ≠ gk ∧ Row8 w0 wr B gb csb (l0 ++ (encA m ++ (out.take k).flatMap encU)) ∧ Holds (Value.int .u8) wr gk 0 out.toArray ∧ gk < wr.heap.size)) (fun _ i _ => m - (intOf i).toNat)
      case atStart =>
        exact ⟨0, g3, cs3.length, _, Nat.zero_le _, rfl, rfl, by have := encA_len m; omega, cs3, rfl, by simp, by omega, by simpa using HR7.out, HH7.out, hq7⟩
      case round =>
        obtain ⟨k, gb, cb, M, hk, rfl, rfl, hM, hst2⟩ := hrel
        by_cases hlt : k < m
        · have hko : k < out.length := by rw [HON.out]; exact hlt
          have hcell : wr.cell? ⟨gk, 0 + k, none⟩ = some (.int .u8 (out.getD k 0)) := by
            obtain ⟨csb, _, _, _, _, hHo, _⟩ := hst2.out
            have := (hHo k (by simpa using hko)).1
            rw [this]
            simp [List.getD, hko]
          obtain ⟨x, hX⟩ : ∃ x, x = out.getD k 0 := ⟨_, rfl⟩
          have hxo : x ∈ out := by rw [hX]; simp [List.getD, hko]
          have hx := HWF.out x ((HSO.out.2.1 x).1 hxo)
          obtain ⟨hx0, hx1⟩ := hx
          have hsn : (out.take (k + 1)).flatMap encU = (out.take k).flatMap encU ++ encU x := by
            rw [hX]
            exact flat_snoc encU out k hko
          rw [← hX] at hcell
          rw [Nat.zero_add] at hcell
          have HX := Lib.hid hX
          have HSN := Lib.hid hsn
          clear hX hxo hsn
          obtain ⟨csb, hcb, hMl, hne, hRb, hHo, hgk⟩ := hst2.out
          obtain ⟨Lk, hLk⟩ : ∃ Lk, Lk = l0 ++ (encA m ++ (out.take k).flatMap encU) := ⟨_, rfl⟩
          rw [← hLk] at hMl hRb
          subst hcb
          have hc8 := grByte w0 wr B gb x csb Lk hRb (by omega) hx0 hx1
          have hel := encU_len9 x
          rw [← hMl] at hc8
          have HC8 := Lib.hid hc8
          have HLK := Lib.hid hLk
          have HML := Lib.hid hMl
          have HHO := Lib.hid hHo
          clear hc8 hRb hMl hHo hLk
          have hkm2 : decide ((k : Int) < (m : Int)) = true := decide_eq_true (by omega)
          go_wp2_with (
            (go_at_call 22)
            go_must (
              (refine HC8.out.mono ?_)
              rintro e w8 ⟨⟨g8, cs8, rfl, hb8, hn8, hm8, ht8, hB8, hbel8⟩, hgr8⟩
              have hq8 := hgr8.1.size
              have hne8 : g8 ≠ gk := by rcases hgr8.2 _ _ _ rfl with h | h <;> omega
              have HR8 : Hid (Row8 w0 w8 B g8 cs8 (Lk ++ encU x)) := ⟨hbel8, hB8, Nat.le_of_lt (Nat.lt_of_le_of_lt hB8 hb8.lt), hb8, hn8, hm8, ht8⟩
              have HG8 := Lib.hid hgr8.1
              clear hb8 hn8 hm8 ht8 hbel8 hgr8))
          go_roundw
          case rel =>
            have hcat : Lk ++ encU x = l0 ++ (encA m ++ (out.take (k + 1)).flatMap encU) := by rw [HSN.out, HLK.out]; simp only [List.append_assoc]
            refine ⟨k + 1, g8, cs8.length, _, by omega, by go_num, rfl, by have := HML.out; simp; omega, cs8, rfl, ?_, hne8, hcat ▸ HR8.out, ?_, by omega⟩
            · rw [← hcat, List.length_append]
            · intro j hj
              obtain ⟨h1, h2⟩ := HHO.out j hj
              have hbk := HG8.out.block gk hgk (fun e => hne.symm (by injection e))
              refine ⟨?_, ?_⟩
              · simpa only [World.cell?, hbk] using h1
              · simpa only [World.frozen?, hbk] using h2
          case measure => simp [intOf]; omega
        · obtain rfl : k = m := by omega
          obtain ⟨csb, hcb, hMl, hne, hRb, hHo, hgk⟩ := hst2.out
          have ht : out.take k = out := by rw [← HON.out]; exact List.take_length
          rw [ht] at hMl hRb
          subst hcb
          have HRB := Lib.hid hRb
          have HML := Lib.hid hMl
          clear hRb hMl hHo
          have hkm2 : decide ((k : Int) < (k : Int)) = false := decide_eq_false (by omega)
          go_wp2
          go_ret2
          exact ⟨gb, csb, out, HSO.out, by rw [HON.out, ← HML.out]; rfl, by rw [HON.out]; exact HRB.out⟩
    · intro x cu kl y w6 cnt6 hkey hlk hv hat hrg6 hlt6 hg6 hs6 hen
      obtain ⟨ks, hmk, hrg, hrowk, hnn, hC, hcs, hR, hqr⟩ := hst.out
      obtain ⟨x', ex, rfl, _⟩ := Maps.keyOf_int_inv Try.underlying5 hkey
      cases ex
      have hrow2 := hrowk.kept hg6 (Or.inr (row_ne_iter hrowk hrg).symm)
      have HROW2 := Lib.hid hrow2
      have HRG6 := Lib.hid hrg6
      have HG6 := Lib.hid hg6
      have HCL : Hid (CollI .u8 D (fun z => left z && !z.sameKey (.int .u8 x)) (ks ++ [x])) := hC.step hlk hat
      have HROWK := Lib.hid hrowk
      have hs6' : wr.heap.size ≤ w6.heap.size := hg6.size
      have hcnt : m + cnt6 + 1 ≤ N := by omega
      have HLE : Hid (wr.rangeLeft b w4.heap.size = cnt) := hrg.left_eq
      have HRR : Hid (Row8 w0 w6 B g3 cs3 (l0 ++ encA N)) := hR.grown hg6 (fun j hj => by cases hj; exact ⟨by omega, by omega⟩)
      have HNN := Lib.hid hnn
      clear hs6 hrow2 hrg6 hg6 hC hrowk hrg hlk hat hkey hv hcs hR hnn
      go_wp2_with (
        (at_builtin)
        go_must (
          refine wpList_append_own _ rfl _ _ 22 rfl w3.heap.size 5 i1 (.int .u8 0) 1 1 Try.underlying22 hi1 hz10 hz11 hz12 rfl (by decide) _ _ _ rfl (HROW2.out.alloc _) ⟨w6.heap.size, 0, none⟩ 1 1 [.int .u8 x] rfl rfl (cell_one_new _ _ _) (by simp [Value.oneCell']) (by simp only [maxLen]; omega) (by omega) (by simp; omega) ?_
          intro v' w8 hown8 hg8 hnil8
          obtain ⟨A8, c8, rfl⟩ := own_formS hown8
          have HOWN8 := Lib.hid hown8
          have HG8 := Lib.hid hg8
          have HNIL8 := Lib.hid hnil8
          clear hown8 hg8 hnil8
          go_frame))
      have hrg8 := (HRG6.out.alloc _).kept HG8.out (row_ne_low HROW2.out (by omega)) (row_ne_iter HROW2.out HRG6.out)
      go_roundw
      case rel =>
        refine ⟨_, cnt6, m + 1, c8, A8, rfl, by omega, ks ++ [x], by simp; omega, hrg8, by simpa using HOWN8.out, fun hv' => by have := (HNIL8.out.1 hv').2; omega, HCL.out, by omega, ?_, ?_⟩
        · exact (HRR.out.grown (World.grownBy_alloc w6 _ none) (fun _ h => by cases h)).grown HG8.out (fun j hj => by have := (HROW2.out.lt j hj).1; exact ⟨by omega, by omega⟩)
        · exact hrg8.lt
      case measure => rw [hrg8.left_eq, HLE.out]; exact hlt6

/-! ### I -/
theorem infoI : (Try.prog.info? 21).map (fun i => (i.zero, i.size, i.bytes)) = some (some (.int .i32 0), 1, 4) := by kernel_rfl
theorem lawI : Keyed Try.prog 21 := int_keyed Try.underlying21
theorem clsI (x y : Int) (W : World) : Calls Try.prog 28 #[.int .i32 x, .int .i32 y] W fun e w' => e = .returned (.int .i64 (cfI x y)) ∧ ∃ q, w' = W.drewN q := by
  by_cases h : x < y
  · have hd : decide (x < y) = true := decide_eq_true h
    have hc : cfI x y = -1 := by unfold cfI; rw [if_pos h]
    rw [hc]
    go_enter Try.func28, Try.ntmps28
    go_wp2
    go_ret
    exact ⟨rfl, 0, rfl⟩
  · have hd : decide (x < y) = false := decide_eq_false h
    have hc : cfI x y = 1 := by unfold cfI; rw [if_neg h]
    rw [hc]
    go_enter Try.func28, Try.ntmps28
    go_wp2
    go_ret
    exact ⟨rfl, 0, rfl⟩
theorem sortI (W : World) (g c : Nat) (ks : List Int) (hH : Holds (Value.int .i32) W g 0 ks.toArray) (hg : g < W.heap.size) (hs : ks.length ≤ 100000) :
    Calls Try.prog 27 #[.slice (some ⟨g, 0, none⟩) ks.length c, .func (.func 28) #[] #[]] W fun e w' =>
      e = .returned (.tuple #[]) ∧ ∃ n os, w' = grow (putRow (Value.int .i32) (Sort.ahead W n) g 0 (ks.mergeSort fun x y => decide (x ≤ y)).toArray) os := by
  have eg : ∀ args w, (callFunc 28 args).run Try.prog w = .ok (.enter 28 args) w := enters_of Try.func28 (by kernel_rfl) rfl
  have hr : CmpReads Try.prog 28 #[] (Value.int .i32) cfI g 0 ks.toArray.size W := fun _ _ _ _ x y => clsI x y _
  have hS := Any.slices_SortFunc_total Try.srt27 (Value.int .i32) (fun _ => rfl) cfI swoI 28 #[] g 0 c ks.toArray W eg hr.lays hH hg (by simp; omega) totI
  rw [leI] at hS
  change Calls Try.prog 27 _ _ _ at hS
  rw [show ks.toArray.size = ks.length by simp] at hS
  exact hS
set_option maxHeartbeats 2000000 in
set_option maxRecDepth 100000 in
theorem msgsizeI (w : World) (b n : Nat) (D : DataW Unit) (hown : w.ownsMap Try.prog 21 unitElem b n D) (hmax : Maps.size D ≤ 100000) :
    Calls Try.prog 26 #[.map (some b)] w fun e w' => e = .returned (.int .i64 (5 + (Maps.size D : Int) * 5)) ∧ w' = w := by
  obtain ⟨N, hN⟩ : ∃ N, N = Maps.size D := ⟨_, rfl⟩
  rw [← hN] at hmax ⊢
  have H := Lib.hid hown
  have HN := Lib.hid hN
  clear hown hN
  have hw1 : IntKind.i64.wrap ((N : Int) * 5) = (N : Int) * 5 := by rw [IntKind.wrap_i64]; omega
  have hw2 : IntKind.i64.wrap (5 + (N : Int) * 5) = 5 + (N : Int) * 5 := by rw [IntKind.wrap_i64]; omega
  have qT : ∀ w : World, (binOp .eql 47 (.map (some b)) (.map none)).run Try.prog w = .ok (.bool false) w := fun w => run_eql_map_nil w _ _ _ (some b) Try.underlying47
  go_enter Try.func26, Try.ntmps26
  go_wp2_with (
    (at_len)
    go_must (
      refine wpList_len_own _ rfl _ _ rfl 21 38 Try.underlying47 _ b n D rfl H.out ?_
      rw [← HN.out]))
  go_ret
  exact ⟨by first | rfl | simp [hw1, hw2], rfl⟩

set_option maxHeartbeats 8000000 in
set_option maxRecDepth 100000 in
theorem marshalI (w0 w : World) (B b g n : Nat) (D : DataW Unit) (cs : List Value) (l0 l : List Int) (hrow : Row8 w0 w B g cs l0) (hs : l0.length ≤ 100000) (hown : w.ownsMap Try.prog 21 unitElem b n D) (hb : b < B) (hD : KeysI .i32 D l) (h0 : l ≠ []) (hl : l.length ≤ 1000) (hwf : ∀ x ∈ l, -2147483648 ≤ x ∧ x ≤ 2147483647) :
    Calls Try.prog 15 #[.map (some b), .slice (some ⟨g, 0, none⟩) l0.length cs.length] w fun e w' => ∃ g' cs' out, SetOf l out ∧ e = .returned (.tuple #[.slice (some ⟨g', 0, none⟩) (l0 ++ (encA out.length ++ out.flatMap encI)).length cs'.length, .nilIface]) ∧
      Row8 w0 w' B g' cs' (l0 ++ (encA out.length ++ out.flatMap encI)) := by
  obtain ⟨i1, hi1, hz10, hz11, hz12⟩ := info_parts infoI
  obtain ⟨N, hN⟩ : ∃ N, N = Maps.size D := ⟨_, rfl⟩
  have hN1 : N ≤ 1000 := by have := hD.le; omega
  have hN0 : N ≠ 0 := by
    intro e
    obtain ⟨_, ks, _, hm, hsz, _⟩ := hD
    have hk : ks = [] := List.eq_nil_of_length_eq_zero (by omega)
    obtain ⟨x, hx⟩ := List.exists_mem_of_ne_nil _ h0
    have := (hm x).2 hx
    rw [hk] at this
    cases this
  have hms := msgsizeI w b n D hown (by omega)
  rw [← hN] at hms
  have HMS := Lib.hid hms
  have HN := Lib.hid hN
  have HD := Lib.hid hD
  have HO := Lib.hid hown
  have HR := Lib.hid hrow
  have HWF := Lib.hid hwf
  have hqb := hrow.2.2.1
  clear hms hN hD hown hrow h0 hwf
  have hd0 : decide ((N : Int) = 0) = false := decide_eq_false (by omega)
  have hw32 : IntKind.u32.wrap (N : Int) = N := by rw [IntKind.wrap_u32]; omega
  have qT : ∀ w : World, (binOp .eql 47 (.map (some b)) (.map none)).run Try.prog w = .ok (.bool false) w := fun w => run_eql_map_nil w _ _ _ (some b) Try.underlying47
  go_enter Try.func15, Try.ntmps15
  go_wp2_with (first
    | (at_len
       go_must (
         first
         | (refine wpList_len_own _ rfl _ _ rfl 21 38 Try.underlying47 _ b n D rfl HM3.out ?_; rw [← HN.out])
         | (refine wpList_len_own _ rfl _ _ rfl 21 38 Try.underlying47 _ b n D rfl HM2.out ?_; rw [← HN.out])
         | (refine wpList_len_own _ rfl _ _ rfl 21 38 Try.underlying47 _ b n D rfl HO.out ?_; rw [← HN.out])))
    | (go_at_call 26; refine HMS.out.mono ?_; rintro e w' ⟨rfl, rfl⟩)
    | (go_at_call 18
       go_must (
         (refine (setEnsure_calls w0 _ B g (5 + N * 5) cs l0 _ (by simp) HR.out (by omega) (by omega)).mono ?_)
         rintro e w2 ⟨g2, cs2, rfl, hb2, hn2, hm2, ht2, hB2, hbel2⟩
         have hq2 := hbel2.size
         have HR2 : Hid (Row8 w0 w2 B g2 cs2 l0) := ⟨hbel2, hB2, Nat.le_of_lt (Nat.lt_of_le_of_lt hB2 hb2.lt), hb2, hn2, hm2, ht2⟩
         have HM2 : Hid (w2.ownsMap Try.prog 21 unitElem b n D) := ownsMap_below2 HR.out HR2.out HO.out hb
         clear hb2 hn2 hm2 ht2 hbel2))
    | (go_at_call 17
       go_must (
         (refine (AppendArr_b w0 _ B g2 N cs2 l0 HR2.out (by omega) (by omega)).mono ?_)
         rintro e w3 ⟨g3, cs3, rfl, hb3, hn3, hm3, ht3, hB3, hbel3⟩
         have HR3 : Hid (Row8 w0 w3 B g3 cs3 (l0 ++ encA N)) := ⟨hbel3, hB3, Nat.le_of_lt (Nat.lt_of_le_of_lt hB3 hb3.lt), hb3, hn3, hm3, ht3⟩
         have HM3 : Hid (w3.ownsMap Try.prog 21 unitElem b n D) := ownsMap_below2 HR2.out HR3.out HM2.out hb
         clear hb3 hn3 hm3 ht3 hbel3))
    | (at_make
       go_must (
         refine wpList_make_own _ rfl _ _ 32 rfl w3.heap.size 21 i1 (.int .i32 0) 1 Try.underlying32 hi1 hz10 hz11 _ _ _ N rfl rfl rfl (by rw [hz12]; omega) (by simp only [maxLen]; omega) (Nat.le_refl _) ?_
         intro w4 hrow4 hg4
         have HK4 := Lib.hid hrow4
         have HG4 := Lib.hid hg4
         have HR4 : Hid (Row8 w0 w4 B g3 cs3 (l0 ++ encA N)) := HR3.out.grown hg4 (fun _ h => by cases h)
         have HM4 : Hid (w4.ownsMap Try.prog 21 unitElem b n D) := HM3.out.kept hg4 (by simp)
         have hq4 := hg4.size
         clear hrow4 hg4))
    | (at_range
       go_must (
         refine wpList_range_own _ rfl _ _ rfl 21 38 lawI Try.underlying47 _ b n D rfl HM4.out ?_
         intro w5 hrg5 hg5 hs5
         have HRG5 := Lib.hid hrg5
         have HG5 := Lib.hid hg5
         have HR5 : Hid (Row8 w0 w5 B g3 cs3 (l0 ++ encA N)) := HR4.out.grown hg5 (fun _ h => by cases h)
         clear hrg5 hg5 hs5)))
  go_frame
  have hqB3 := HR3.out.2.2.1
  have hgl3 : g3 < w3.heap.size := HR3.out.2.2.2.1.lt
  go_loopw [6] (fun v wr => ∃ (left : Lit → Bool) (cnt m c : Nat) (A : Option Addr), v = .slice A m c ∧ m ≤ 1000 ∧ Hid (∃ ks : List Int, m = ks.length ∧ wr.ranges Try.prog 21 unitElem b w4.heap.size n D left cnt ∧ wr.ownsRow w3.heap.size 21 1 (.slice A m c) m (ks.map (Value.int .i32)) ∧ (Value.slice A m c) ≠ .slice none 0 0 ∧ CollI .i32 D left ks ∧ m + cnt ≤ N ∧ Row8 w0 wr B g3 cs3 (l0 ++ encA N) ∧ w4.heap.size < wr.heap.size))
    (fun _ wr => wr.rangeLeft b w4.heap.size)
  case atStart =>
    exact ⟨_, _, 0, N, _, rfl, by omega, [], rfl, HRG5.out, HK4.out.kept HG5.out (Or.inr (by simp [Value.ownBlock])), by simp, CollI.start .i32 D, by rw [← HN.out]; omega, HR5.out, HRG5.out.lt⟩
  case round =>
    obtain ⟨left, cnt, m, c, A, rfl, hm, hst⟩ := hrel
    go_wp2_with (
      (at_next)
      go_must (
        refine wpList_next_ranges _ rfl _ rfl 21 lawI unitElem (Value.int .i32) (fun _ : Unit => (.agg #[] : Value)) (fun key kl hk => by obtain ⟨x, rfl, _⟩ := Maps.keyOf_int_inv Try.underlying21 hk; exact ⟨x, rfl⟩) (fun v y hv => ⟨(), (unitElem_inv hv).1⟩) b w4.heap.size n D left cnt rfl hst.out.choose_spec.2.1 ?_ ?_))
    · intro hc0 hl0
      obtain ⟨ks, hmk, hrg, hrowk, hnn, hC, hcs, hR, hqr⟩ := hst.out
      obtain ⟨hkn, hkm⟩ := hC.end_ hl0 HD.out.1
      have hlen : ks.length = N := (HD.out.len hkn hkm).trans HN.out.symm
      have hso := setOf_sorted hkn hkm (by have := HD.out.le; rw [HD.out.len hkn hkm]; exact this)
      rcases hrowk.2 with ⟨hnil, _⟩ | ⟨gk, capk, cur, hv, hbase, hbk, h1, h2, h3, h4⟩
      · exact absurd hnil hnn
      cases hv
      rw [hmk] at h1 h4
      have hH : Holds (Value.int .i32) wr gk 0 ks.toArray := holds_blockI hbk (by simpa using h4)
      have hgl := (Array.getElem?_eq_some_iff.1 hbk).1
      have hc := sortI wr gk c ks hH hgl (by omega)
      obtain ⟨out, hout⟩ : ∃ out, out = ks.mergeSort (fun x y => decide (x ≤ y)) := ⟨_, rfl⟩
      rw [← hout] at hc hso
      have hlo : out.length = ks.length := by rw [hout]; exact List.length_mergeSort ks
      have hc7 : Calls Try.prog 27 #[.slice (some ⟨gk, 0, none⟩) N c, .func (.func 28) #[] #[]] wr fun e w' =>
          e = .returned (.tuple #[]) ∧ wr.grownBy w' (some gk) ∧ Holds (Value.int .i32) w' gk 0 out.toArray ∧ gk < w'.heap.size := by
        rw [← hlen]
        refine hc.mono ?_
        rintro e w7 ⟨rfl, nn, os, rfl⟩
        refine ⟨rfl, grown_sortedI _, holds_blockI (heap_sortedI _ hbk) ?_, Nat.lt_of_lt_of_le hgl (grown_sortedI (enc := Value.int .i32) (w := wr) (g := gk) (n := nn) (os := os) out.toArray).size⟩
        exact take_putI cur out (by omega)
      have HC7 := Lib.hid hc7
      have HSO := Lib.hid hso
      have hmN : m = N := by omega
      have hoN : out.length = N := by omega
      have HON := Lib.hid hoN
      clear hc7 hso hc hH hbk h1 h2 h3 h4 hrowk hC hrg hkn hkm hout hlo hlen hmk hc0 hl0 hnn
      subst hmN
      clear hoN
      go_wp2_with (
        (go_at_call 27)
        go_must (
          (refine HC7.out.mono ?_)
          rintro e w7 ⟨rfl, hg7, hH7, hq7⟩
          have HG7 := Lib.hid hg7
          have HH7 := Lib.hid hH7
          have HR7 : Hid (Row8 w0 w7 B g3 cs3 (l0 ++ encA m)) := hR.grown hg7 (fun j hj => by cases hj; exact ⟨by omega, by omega⟩)
          clear hg7 hH7))
      go_loopw [1, 45] (fun v i wr => ∃ (k gb cb M : Nat), k ≤ m ∧ i = .int .i64 (k : Nat) ∧ v = .slice (some ⟨gb, 0, none⟩) M cb ∧ M ≤ 110000 + 9 * k ∧ Hid (∃ csb : List Value, cb = csb.length ∧ M = (l0 ++ (encA m ++ (out.take k).flatMap encI)).length ∧ gb ≠ gk ∧ Row8 w0 wr B gb csb (l0 ++ (encA m ++ (out.take k).flatMap encI)) ∧ Holds (Value.int .i32) wr gk 0 out.toArray ∧ gk < wr.heap.size)) (fun _ i _ => m - (intOf i).toNat)
      case atStart =>
        exact ⟨0, g3, cs3.length, _, Nat.zero_le _, rfl, rfl, by have := encA_len m; omega, cs3, rfl, by simp, by omega, by simpa using HR7.out, HH7.out, hq7⟩
      case round =>
        obtain ⟨k, gb, cb, M, hk, rfl, rfl, hM, hst2⟩ := hrel
        by_cases hlt : k < m
        · have hko : k < out.length := by rw [HON.out]; exact hlt
          have hcell : wr.cell? ⟨gk, 0 + k, none⟩ = some (.int .i32 (out.getD k 0)) := by
            obtain ⟨csb, _, _, _, _, hHo, _⟩ := hst2.out
            have := (hHo k (by simpa using hko)).1
            rw [this]
            simp [List.getD, hko]
          obtain ⟨x, hX⟩ : ∃ x, x = out.getD k 0 := ⟨_, rfl⟩
          have hxo : x ∈ out := by rw [hX]; simp [List.getD, hko]
          have hx := HWF.out x ((HSO.out.2.1 x).1 hxo)
          obtain ⟨hx0, hx1⟩ := hx
          have hsn : (out.take (k + 1)).flatMap encI = (out.take k).flatMap encI ++ encI x := by
            rw [hX]
            exact flat_snoc encI out k hko
          rw [← hX] at hcell
          rw [Nat.zero_add] at hcell
          have HX := Lib.hid hX
          have HSN := Lib.hid hsn
          clear hX hxo hsn
          obtain ⟨csb, hcb, hMl, hne, hRb, hHo, hgk⟩ := hst2.out
          obtain ⟨Lk, hLk⟩ : ∃ Lk, Lk = l0 ++ (encA m ++ (out.take k).flatMap encI) := ⟨_, rfl⟩
          rw [← hLk] at hMl hRb
          subst hcb
          have hc8 := grI32 w0 wr B gb x csb Lk hRb (by omega) hx0 hx1
          have hel := encI_len9 x
          rw [← hMl] at hc8
          have HC8 := Lib.hid hc8
          have HLK := Lib.hid hLk
          have HML := Lib.hid hMl
          have HHO := Lib.hid hHo
          clear hc8 hRb hMl hHo hLk
          have hkm2 : decide ((k : Int) < (m : Int)) = true := decide_eq_true (by omega)
          go_wp2_with (
            (go_at_call 29)
            go_must (
              (refine HC8.out.mono ?_)
              rintro e w8 ⟨⟨g8, cs8, rfl, hb8, hn8, hm8, ht8, hB8, hbel8⟩, hgr8⟩
              have hq8 := hgr8.1.size
              have hne8 : g8 ≠ gk := by rcases hgr8.2 _ _ _ rfl with h | h <;> omega
              have HR8 : Hid (Row8 w0 w8 B g8 cs8 (Lk ++ encI x)) := ⟨hbel8, hB8, Nat.le_of_lt (Nat.lt_of_le_of_lt hB8 hb8.lt), hb8, hn8, hm8, ht8⟩
              have HG8 := Lib.hid hgr8.1
              clear hb8 hn8 hm8 ht8 hbel8 hgr8))
          go_roundw
          case rel =>
            have hcat : Lk ++ encI x = l0 ++ (encA m ++ (out.take (k + 1)).flatMap encI) := by rw [HSN.out, HLK.out]; simp only [List.append_assoc]
            refine ⟨k + 1, g8, cs8.length, _, by omega, by go_num, rfl, by have := HML.out; simp; omega, cs8, rfl, ?_, hne8, hcat ▸ HR8.out, ?_, by omega⟩
            · rw [← hcat, List.length_append]
            · intro j hj
              obtain ⟨h1, h2⟩ := HHO.out j hj
              have hbk := HG8.out.block gk hgk (fun e => hne.symm (by injection e))
              refine ⟨?_, ?_⟩
              · simpa only [World.cell?, hbk] using h1
              · simpa only [World.frozen?, hbk] using h2
          case measure => simp [intOf]; omega
        · obtain rfl : k = m := by omega
          obtain ⟨csb, hcb, hMl, hne, hRb, hHo, hgk⟩ := hst2.out
          have ht : out.take k = out := by rw [← HON.out]; exact List.take_length
          rw [ht] at hMl hRb
          subst hcb
          have HRB := Lib.hid hRb
          have HML := Lib.hid hMl
          clear hRb hMl hHo
          have hkm2 : decide ((k : Int) < (k : Int)) = false := decide_eq_false (by omega)
          go_wp2
          go_ret2
          exact ⟨gb, csb, out, HSO.out, by rw [HON.out, ← HML.out]; rfl, by rw [HON.out]; exact HRB.out⟩
    · intro x cu kl y w6 cnt6 hkey hlk hv hat hrg6 hlt6 hg6 hs6 hen
      obtain ⟨ks, hmk, hrg, hrowk, hnn, hC, hcs, hR, hqr⟩ := hst.out
      obtain ⟨x', ex, rfl, _⟩ := Maps.keyOf_int_inv Try.underlying21 hkey
      cases ex
      have hrow2 := hrowk.kept hg6 (Or.inr (row_ne_iter hrowk hrg).symm)
      have HROW2 := Lib.hid hrow2
      have HRG6 := Lib.hid hrg6
      have HG6 := Lib.hid hg6
      have HCL : Hid (CollI .i32 D (fun z => left z && !z.sameKey (.int .i32 x)) (ks ++ [x])) := hC.step hlk hat
      have HROWK := Lib.hid hrowk
      have hs6' : wr.heap.size ≤ w6.heap.size := hg6.size
      have hcnt : m + cnt6 + 1 ≤ N := by omega
      have HLE : Hid (wr.rangeLeft b w4.heap.size = cnt) := hrg.left_eq
      have HRR : Hid (Row8 w0 w6 B g3 cs3 (l0 ++ encA N)) := hR.grown hg6 (fun j hj => by cases hj; exact ⟨by omega, by omega⟩)
      have HNN := Lib.hid hnn
      clear hs6 hrow2 hrg6 hg6 hC hrowk hrg hlk hat hkey hv hcs hR hnn
      go_wp2_with (
        (at_builtin)
        go_must (
          refine wpList_append_own _ rfl _ _ 32 rfl w3.heap.size 21 i1 (.int .i32 0) 1 4 Try.underlying32 hi1 hz10 hz11 hz12 rfl (by decide) _ _ _ rfl (HROW2.out.alloc _) ⟨w6.heap.size, 0, none⟩ 1 1 [.int .i32 x] rfl rfl (cell_one_new _ _ _) (by simp [Value.oneCell']) (by simp only [maxLen]; omega) (by omega) (by simp; omega) ?_
          intro v' w8 hown8 hg8 hnil8
          obtain ⟨A8, c8, rfl⟩ := own_formS hown8
          have HOWN8 := Lib.hid hown8
          have HG8 := Lib.hid hg8
          have HNIL8 := Lib.hid hnil8
          clear hown8 hg8 hnil8
          go_frame))
      have hrg8 := (HRG6.out.alloc _).kept HG8.out (row_ne_low HROW2.out (by omega)) (row_ne_iter HROW2.out HRG6.out)
      go_roundw
      case rel =>
        refine ⟨_, cnt6, m + 1, c8, A8, rfl, by omega, ks ++ [x], by simp; omega, hrg8, by simpa using HOWN8.out, fun hv' => by have := (HNIL8.out.1 hv').2; omega, HCL.out, by omega, ?_, ?_⟩
        · exact (HRR.out.grown (World.grownBy_alloc w6 _ none) (fun _ h => by cases h)).grown HG8.out (fun j hj => by have := (HROW2.out.lt j hj).1; exact ⟨by omega, by omega⟩)
        · exact hrg8.lt
      case measure => rw [hrg8.left_eq, HLE.out]; exact hlt6
end Go.Proofs.Ytfhaddnacdjpoaa
