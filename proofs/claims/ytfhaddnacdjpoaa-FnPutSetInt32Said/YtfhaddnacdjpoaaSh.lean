/- spec.takeKids at arrays of whole numbers. PRINTED by wip/gensh.py. -/
import Derived.Test.YtfhaddnacdjpoaaSf
import Derived.Test.YtfhaddnacdjpoaaKl
import Derived.Test.YtfhaddnacdjpoaaKg
namespace Go.Proofs.Ytfhaddnacdjpoaa
open Go.RowKit
set_option linter.unusedVariables false

theorem infoPackS : (Try.prog.info? 29).map (fun i => (i.zero, i.size, i.bytes)) = some (some (.agg #[.int .i64 0, .int .u64 0, .string ⟨#[]⟩, .int .i64 0, .slice none 0 0]), 5, 64) := by kernel_rfl
/-- The cells of a number, as it is taken. -/
def n5 (k u : Int) : List Value := [.int .i64 k, .int .u64 u, .string ⟨#[]⟩, .int .i64 0, .slice none 0 0]
theorem n5_one (k u : Int) : ∀ v ∈ n5 k u, v.oneCell' = true := by
  intro v hv
  simp only [n5, List.mem_cons, List.not_mem_nil, or_false] at hv
  rcases hv with rfl | rfl | rfl | rfl | rfl <;> rfl
theorem reads_fiveS (w : World) (k u : Int) (t : TypeId) : Reads (w.alloc (.cells #[.int .i64 k, .int .u64 u, .string ⟨#[]⟩, .int .i64 0, .slice none 0 0] t)) (w.heap.size + 1) 5 (some ⟨w.heap.size, 0, none⟩) 1 (n5 k u) := by
  refine ⟨rfl, fun _ => ⟨_, rfl, by simp, fun j v hv => ?_⟩⟩
  rw [add_lit, Nat.zero_add]
  exact ((Blk.new w t (n5 k u)).cell j).trans hv
theorem reads_five2 (w : World) (o : Obj) (k u : Int) (t : TypeId) : Reads ((w.alloc o).alloc (.cells #[.int .i64 k, .int .u64 u, .string ⟨#[]⟩, .int .i64 0, .slice none 0 0] t)) (w.heap.size + 2) 5 (some ⟨w.heap.size + 1, 0, none⟩) 1 (n5 k u) := by
  have h := reads_fiveS (w.alloc o) k u t
  simpa using h
theorem own_setS {w : World} {base gb n i sz : Nat} {e : TypeId} {v u : Value} {xs : List Value} (h : w.ownsRow base e sz v n xs) (hne : some gb ≠ v.ownBlock) : (w.setCell ⟨gb, i, none⟩ u).ownsRow base e sz v n xs :=
  h.kept (row := some gb) ⟨rfl, rfl, rfl, by simp, fun k _ hk => heap_setCell_other w ⟨gb, i, none⟩ k u (fun e => hk (by simp [e]))⟩ (.inr (fun e => hne e.symm))
theorem own_set5S {w : World} {base p n sz : Nat} {t : TypeId} {v : Value} {xs : List Value} (h : w.ownsRow base t sz v n xs) (hne : some p ≠ v.ownBlock) (a b c d e : Value) : (((((w.setCell ⟨p, 0, none⟩ a).setCell ⟨p, 1, none⟩ b).setCell ⟨p, 2, none⟩ c).setCell ⟨p, 3, none⟩ d).setCell ⟨p, 4, none⟩ e).ownsRow base t sz v n xs :=
  own_setS (own_setS (own_setS (own_setS (own_setS h hne) hne) hne) hne) hne
theorem own_belowS {w w' : World} {base n sz : Nat} {t : TypeId} {v : Value} {xs : List Value} (h : w.ownsRow base t sz v n xs) (hb : Below w.heap.size w w') : w'.ownsRow base t sz v n xs :=
  h.kept (row := none) ⟨hb.os, hb.tape, hb.output, hb.size, fun k hk _ => hb.block k hk⟩ (by cases hv : v.ownBlock <;> simp)
theorem far_set5 {W : World} {g p : Nat} {t : TypeId} {cs : List Value} (h : Blk W g t cs) (hp : g ≠ p) (a b c d e : Value) : Blk (((((W.setCell ⟨p, 0, none⟩ a).setCell ⟨p, 1, none⟩ b).setCell ⟨p, 2, none⟩ c).setCell ⟨p, 3, none⟩ d).setCell ⟨p, 4, none⟩ e) g t cs :=
  ((((h.far hp a).far hp b).far hp c).far hp d).far hp e
theorem flat_snocS (f : Int → List Value) (l : List Int) (k : Nat) (h : k < l.length) : (l.take (k + 1)).flatMap f = (l.take k).flatMap f ++ f (l.getD k 0) := by
  rw [take_snocI l k h, List.flatMap_append, List.flatMap_cons, List.flatMap_nil, List.append_nil]
theorem drop_consS (l : List Int) (k : Nat) (h : k < l.length) : l.drop k = l.getD k 0 :: l.drop (k + 1) := by
  rw [List.drop_eq_getElem_cons h, List.getD, List.getElem?_eq_getElem h]
  rfl
theorem isB_flat {enc : Int → List Int} (he : ∀ x, IsB (enc x)) (l : List Int) (rest : List Int) (hr : IsB rest) : IsB (l.flatMap enc ++ rest) := by
  intro x hx
  rcases List.mem_append.1 hx with h | h
  · obtain ⟨y, _, hy⟩ := List.mem_flatMap.1 h
    exact he y x hy
  · exact hr x h
/-- An array was taken: its values lie in a row of their own. -/
def Kids (w : World) (B : Nat) (g5 : Int → List Value) (l rest : List Int) (e : Ending) (w' : World) : Prop :=
  ∃ A5 c5 A' c', e = .returned (.tuple #[.agg #[.int .i64 8, .int .u64 0, .string ⟨#[]⟩, .int .i64 0, .slice A5 l.length c5], .slice A' rest.length c', .bool true]) ∧ rest.length ≤ c' ∧ c' ≤ maxLen ∧ Reads w' B 1 A' rest.length (bs rest) ∧ w'.ownsRow w.heap.size 29 5 (.slice A5 l.length c5) l.length (l.flatMap g5) ∧ Below w.heap.size w w'

set_option maxHeartbeats 8000000 in
set_option maxRecDepth 100000 in
theorem takeKids_calls (enc : Int → List Int) (kd uu : Int → Int) (w : World) (B c N : Nat) (A : Option Addr) (l rest : List Int) (hrb : IsB rest) (heb : ∀ x, x ∈ l → IsB (enc x)) (hB : B ≤ w.heap.size)
    (HP : ∀ x, x ∈ l → ∀ (R : List Int), IsB R → ∀ (W : World) (A : Option Addr) (c : Nat), Reads W B 1 A (enc x ++ R).length (bs (enc x ++ R)) → B ≤ W.heap.size → (enc x ++ R).length ≤ c → c ≤ maxLen → Calls Try.prog 13 #[.slice A (enc x ++ R).length c, .int .i64 2] W (Coded W B (pk (kd x) (uu x) ⟨#[]⟩ 0) R))
    (hN : N = (l.flatMap enc ++ rest).length) (h : Reads w B 1 A N (bs (l.flatMap enc ++ rest))) (hc : N ≤ c) (hm : c ≤ maxLen) (hl : l.length ≤ 1000) :
    Calls Try.prog 23 #[.int .i64 8, .int .i64 (l.length : Int), .slice A N c, .int .i64 3] w (Kids w B (fun x => n5 (kd x) (uu x)) l rest) := by
  obtain ⟨i0, hi0, hz0, hz1, hz2⟩ := info_parts infoPackS
  obtain ⟨n, hn⟩ : ∃ n, n = l.length := ⟨_, rfl⟩
  rw [← hn] at hl ⊢
  have HNL := Lib.hid hn
  have H := Lib.hid h
  have HNN := Lib.hid hN
  have HPP := Lib.hid HP
  have HRB := Lib.hid hrb
  have HEB := Lib.hid heb
  clear h hN HP hrb heb hn
  go_enter Try.func23, Try.ntmps23
  go_wp2
  go_loopw [2, 12] (fun d i wr => ∃ (k M c' m5 c5 : Nat) (A' A5 : Option Addr), k ≤ n ∧ i = .int .i64 (k : Nat) ∧ d = .slice A' M c' ∧ M ≤ c' ∧ c' ≤ maxLen ∧ m5 = k ∧ Hid (M = ((l.drop k).flatMap enc ++ rest).length ∧ Reads wr B 1 A' M (bs ((l.drop k).flatMap enc ++ rest)) ∧ Blk wr w.heap.size 29 [.int .i64 0, .int .u64 0, .string ⟨#[]⟩, .int .i64 0, .slice none 0 0] ∧ Blk wr (w.heap.size + 1) 29 [.int .i64 8, .int .u64 0, .string ⟨#[]⟩, .int .i64 0, .slice A5 m5 c5] ∧ wr.ownsRow (w.heap.size + 2) 29 5 (.slice A5 m5 c5) m5 ((l.take k).flatMap fun x => n5 (kd x) (uu x)) ∧ Below w.heap.size w wr)) (fun _ i _ => n - (intOf i).toNat)
  case atStart =>
    have hb1 : Below w.heap.size w (w.alloc (.cells #[.int .i64 0, .int .u64 0, .string ⟨#[]⟩, .int .i64 0, .slice none 0 0] 29)) := (Below.refl _ _).alloc (Nat.le_refl _) _
    refine ⟨0, N, c, 0, 0, A, none, Nat.zero_le _, rfl, rfl, hc, hm, rfl, by rw [List.drop_zero]; exact HNN.out, ?_, ?_, ?_, World.ownsRow_nil _ _ _ _, hb1.alloc (by simp) _⟩
    · rw [List.drop_zero]
      exact (H.out.alloc hB _).alloc (by simp; omega) _
    · exact (Blk.new w _ [_, _, _, _, _]).alloc _
    · have h := Blk.new (w.alloc (.cells #[.int .i64 0, .int .u64 0, .string ⟨#[]⟩, .int .i64 0, .slice none 0 0] 29)) 29 [.int .i64 8, .int .u64 0, .string ⟨#[]⟩, .int .i64 0, .slice none 0 0]
      simpa using h
  case round =>
    obtain ⟨k, M, c', m5, c5, A', A5, hk, rfl, rfl, hMc, hcm, hm5, hst⟩ := hrel
    subst hm5
    by_cases hlt : m5 < n
    · have hkm2 : decide ((m5 : Int) < (n : Int)) = true := decide_eq_true (by omega)
      have hkl : m5 < l.length := by rw [← HNL.out]; exact hlt
      obtain ⟨x, hX⟩ : ∃ x, x = l.getD m5 0 := ⟨_, rfl⟩
      have hxl : x ∈ l := by rw [hX]; exact getD_memS l m5 hkl
      obtain ⟨hMl, hrd, hb8, hb11, hown, hbel⟩ := hst.out
      have hdc : (l.drop m5).flatMap enc ++ rest = enc x ++ ((l.drop (m5 + 1)).flatMap enc ++ rest) := by
        rw [drop_consS l m5 hkl, ← hX, List.flatMap_cons, List.append_assoc]
      have hRB : IsB ((l.drop (m5 + 1)).flatMap enc ++ rest) := by
        intro y hy
        rcases List.mem_append.1 hy with h | h
        · obtain ⟨z, hz, hy'⟩ := List.mem_flatMap.1 h
          exact HEB.out z (List.mem_of_mem_drop hz) y hy'
        · exact HRB.out y h
      rw [hdc] at hMl hrd
      obtain ⟨R, hR⟩ : ∃ R, R = (l.drop (m5 + 1)).flatMap enc ++ rest := ⟨_, rfl⟩
      rw [← hR] at hMl hrd hRB
      have hBw : B ≤ wr.heap.size := Nat.le_trans hB hbel.size
      have hct := HPP.out x hxl R hRB wr A' c' (by rw [← hMl]; exact hrd) hBw (by rw [← hMl]; exact hMc) hcm
      rw [← hMl] at hct
      unfold pk at hct
      have hsn : (l.take (m5 + 1)).flatMap (fun x => n5 (kd x) (uu x)) = (l.take m5).flatMap (fun x => n5 (kd x) (uu x)) ++ n5 (kd x) (uu x) := by rw [hX]; exact flat_snocS _ l m5 hkl
      have h11 : w.heap.size + 1 < wr.heap.size := hb11.lt
      have HC := Lib.hid hct
      have HSN := Lib.hid hsn
      have HRR := Lib.hid hR
      have HB8 := Lib.hid hb8
      have HB11 := Lib.hid hb11
      have HOWN := Lib.hid hown
      have HBEL := Lib.hid hbel
      clear hct hsn hR hb8 hb11 hown hbel hMl hrd hdc hRB hX hxl hst
      go_wp2_with (first
        | (go_at_call 13
           go_must (
             (refine HC.out.mono ?_)
             rintro e w2 ⟨A2, c2, rfl, hl2, hm2, hr2, hbel2⟩
             have bv2 := Blk.below HB11.out hbel2 h11
             have n4 : w2.cell? ⟨w.heap.size + 1, 4, none⟩ = some (.slice A5 m5 c5) := bv2.cell 4
             have nf4 := bv2.frozen 4
             have hq2 := hbel2.size
             have h112 : w.heap.size + 1 < w2.heap.size := by omega
             have hown2 := own_belowS HOWN.out hbel2
             have HOWN2 := Lib.hid hown2
             have HBV2 := Lib.hid bv2
             have HR2 := Lib.hid hr2
             have HBEL2 := Lib.hid hbel2
             clear hr2 hbel2 bv2 hown2))
        | (at_builtin
           go_must (
             (refine wpList_append_any _ rfl (.tmp 35) (.tmp 37) 25 rfl (w.heap.size + 2) 29 i0 _ 5 64 Try.underlying25 hi0 hz0 hz1 hz2 rfl (by omega) (.slice A5 m5 c5) m5 _ rfl ((HOWN2.out.alloc _).alloc _) (w2.heap.size + 2) _ 1 1 (n5 (kd x) (uu x)) rfl (reads_five2 _ _ _ _ _) (n5_one _ _) (by simp only [maxLen]; omega) (by omega) (by simp; omega) ?_)
             intro v1 w5 hown5 hg5 hat5
             obtain ⟨A6, c6, rfl⟩ := own_formS hown5
             have hne : some (w.heap.size + 1) ≠ (Value.slice A5 m5 c5).ownBlock := fun h => by have := (HOWN2.out.lt _ h.symm).1; omega
             have bv5 := Blk.grown ((HBV2.out.alloc _).alloc _) hg5 hne
             have nf5 := bv5.frozen 4
             have n5' := bv5.cell 4
             have hz5 := bv5.lt
             have HBV5 := Lib.hid bv5
             have HOWN5 := Lib.hid hown5
             have HG5 := Lib.hid hg5
             have hq5 := hg5.size
             clear hown5 hg5 hat5 bv5 hne)))
      go_roundw
      case rel =>
        have hwq := HBEL.out.size
        have hB2 : B ≤ w2.heap.size := by omega
        have hlow : ∀ j, (Value.slice A5 m5 c5).ownBlock = some j → w.heap.size + 2 ≤ j := fun j hj => (HOWN2.out.lt _ hj).1
        refine ⟨m5 + 1, R.length, c2, m5 + 1, c6, A2, A6, by omega, by go_num, by first | trivial | rfl, hl2, hm2, rfl, by rw [HRR.out], ?_, ?_, ?_, ?_, ?_⟩
        · rw [← HRR.out]
          exact (((HR2.out.alloc hB2 _).alloc (by simp; omega) _).grown HG5.out (by simp; omega) (fun g hg => by have := hlow g hg; omega)).setCell (by simp; omega) _
        · exact ((((HB8.out.below HBEL2.out (by omega)).alloc _).alloc _).grown HG5.out (fun h => by have := hlow _ h.symm; omega)).far (by simp) _
        · exact HBV5.out.set_ 4 _
        · rw [HSN.out]
          exact own_setS HOWN5.out (fun h => by have := (HOWN5.out.lt _ h.symm).1; omega)
        · exact ((((HBEL.out.trans (HBEL2.out.mono hwq)).alloc (by omega) _).alloc (by simp; omega) _).grown HG5.out (by simp; omega) (fun j hj => by have := hlow j hj; omega)).setCell (by simp) _
      case measure => simp [intOf]; omega
    · obtain rfl : m5 = n := by omega
      have hkm2 : decide ((m5 : Int) < (m5 : Int)) = false := decide_eq_false (by omega)
      obtain ⟨hMl, hrd, hb8, hb11, hown, hbel⟩ := hst.out
      rw [HNL.out, List.drop_length, List.flatMap_nil, List.nil_append] at hMl hrd
      have hown' : wr.ownsRow (w.heap.size + 2) 29 5 (.slice A5 m5 c5) m5 (l.flatMap fun x => n5 (kd x) (uu x)) := by
        have := hown
        rwa [HNL.out, List.take_length, ← HNL.out] at this
      obtain ⟨q0, q1, q2, q3, q4⟩ := blk_cells5 hb11
      have f0 := hb8.frozen 0
      have f1 := hb8.frozen 1
      have f2 := hb8.frozen 2
      have f3 := hb8.frozen 3
      have f4 := hb8.frozen 4
      have h8 := hb8.lt
      obtain ⟨e0, e1, e2, e3, e4⟩ := blk_cells5 hb8
      subst hMl
      have HB8 := Lib.hid hb8
      have HOWN := Lib.hid hown'
      have HBEL := Lib.hid hbel
      have HRD := Lib.hid hrd
      clear hb8 hb11 hown hown' hbel hrd hst
      go_wp2
      refine bodyPost_ret (results_cell2 rfl _ rfl (blk_set5 HB8.out _ _ _ _ _) Try.underlying29 rfl (by kernel_rfl)) rfl ?_
      refine ⟨A5, c5, A', c', by rw [← HNL.out]; rfl, hMc, hcm, reads_set5 HRD.out _ hB _ _ _ _ _, ?_, below_set5 HBEL.out _ (Nat.le_refl _) _ _ _ _ _⟩
      rw [← HNL.out]
      exact (own_set5S HOWN.out (fun h => by have := (HOWN.out.lt _ h.symm).1; omega) _ _ _ _ _).mono (by omega)
end Go.Proofs.Ytfhaddnacdjpoaa
