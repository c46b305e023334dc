/- impl.PutSetByte, impl.PutSetInt32: the list laid into a map, the bytes copied, the set appended. PRINTED by wip/gense.py. -/
import Derived.Test.YtfhaddnacdjpoaaSd
import Derived.Carry
namespace Go.Proofs.Ytfhaddnacdjpoaa
open Go.RowKit Go.Maps Go.Sort Go.ChangeShapes Go.WideShapes Go.Shelf
set_option linter.unusedVariables false

theorem Reads.list {w : World} {B n : Nat} {A : Option Addr} {q : IntKind} {l : List Int} (h : Reads w B 1 A n (l.map (Value.int q))) {k : Nat} (hk : k < n) : ∃ ad, A = some ad ∧ ad.block < B ∧ k < l.length ∧ w.cell? (ad.add k) = some (.int q (l.getD k 0)) := by
  obtain ⟨ad, u, h1, h2, h3, h4⟩ := h.at_ hk
  rw [List.getElem?_map] at h3
  rcases e : l[k]? with _ | v
  · rw [e] at h3; cases h3
  · rw [e] at h3
    cases h3
    obtain ⟨hk', hv⟩ := List.getElem?_eq_some_iff.1 e
    exact ⟨ad, h1, h2, hk', by rw [h4]; simp [List.getD, e]⟩
theorem take_snocI (l : List Int) (k : Nat) (h : k < l.length) : l.take (k + 1) = l.take k ++ [l.getD k 0] := by
  rw [List.take_add_one, List.getElem?_eq_getElem h, List.getD, List.getElem?_eq_getElem h]
  rfl
theorem getD_memS (l : List Int) (k : Nat) (h : k < l.length) : l.getD k 0 ∈ l := by
  simp [List.getD, h]

set_option maxHeartbeats 4000000 in
set_option maxRecDepth 100000 in
theorem putB (w : World) (A Al : Option Addr) (c cl N : Nat) (la l : List Int) (hN : N = l.length) (h : Reads w w.heap.size 1 A la.length (bs la)) (hr : Reads w w.heap.size 1 Al N (l.map (Value.int .u8))) (hla : la.length ≤ 1000) (h0 : l ≠ []) (hl : N ≤ 1000) (hwf : ∀ x ∈ l, 0 ≤ x ∧ x ≤ 255) :
    Calls Try.prog 5 #[.slice A la.length c, .slice Al N cl] w fun e w' => ∃ out, SetOf l out ∧ AppB w w.heap.size (la ++ (encA out.length ++ out.flatMap encU)) e w' := by
  have H := Lib.hid h
  have HR := Lib.hid hr
  have HWF := Lib.hid hwf
  have HN := Lib.hid hN
  have hmm := @run_makeMap Try.prog
  clear h hr hwf hN
  go_enter Try.func5, Try.ntmps5
  go_wp2
  go_loopw [13] (fun i wr => ∃ k : Nat, k ≤ N ∧ i = .int .i64 (k : Nat) ∧ w.heap.size < wr.heap.size ∧ Hid (∃ D : DataW Unit, wr.ownsMap Try.prog 5 unitElem w.heap.size k D ∧ KeysI .u8 D (l.take k)) ∧ Hid (Below w.heap.size w wr)) (fun i _ => N - (intOf i).toNat)
  case atStart =>
    exact ⟨0, Nat.zero_le _, rfl, by simp, ⟨_, World.ownsMap_made _ _ _ _, by rw [List.take_zero]; exact KeysI.nil _⟩, (Below.refl _ _).alloc (Nat.le_refl _) _⟩
  case round =>
    obtain ⟨k, hk, rfl, hsz, hst, hbl⟩ := hrel
    by_cases hlt : k < N
    · have hkm2 : decide ((k : Int) < (N : Int)) = true := decide_eq_true (by omega)
      obtain ⟨ad, hA, hadB, hkl, hcell0⟩ := HR.out.list hlt
      subst hA
      have hcell : wr.cell? (ad.add k) = some (.int .u8 (l.getD k 0)) := (hbl.out.cell (by rw [block_of_add]; exact hadB)).trans hcell0
      obtain ⟨x, hX⟩ : ∃ x, x = l.getD k 0 := ⟨_, rfl⟩
      have hx := HWF.out x (by rw [hX]; exact getD_memS l k hkl)
      rw [← hX] at hcell
      have HX := Lib.hid hX
      have hkey : keyOf Try.prog 5 (.int .u8 x) = some (.int .u8 x) := keyOf_int_mk Try.underlying5 (by simp [Lit.wf, IntKind.min, IntKind.max, IntKind.bits, IntKind.signed]; omega)
      have HKEY := Lib.hid hkey
      clear hcell0 hX hkey
      obtain ⟨D, hown, hD⟩ := hst.out
      have HOWN := Lib.hid hown
      have HD := Lib.hid hD
      clear hown hD
      go_wp2_with (first
        | (at_mapUpdate
           go_must (
             refine wpList_mapUpdate_own _ rfl _ _ _ 37 rfl 5 38 lawB Try.underlying37 (unitElem (H := Unit)) w.heap.size k D rfl HOWN.out (by unfold maxLen; omega) _ _ _ rfl rfl HKEY.out _ [] unitElem_mk ?_
             intro w1 hown1 hgrow1
             have HOWN1 := Lib.hid hown1
             have HG1 := Lib.hid hgrow1
             have hq1 := hgrow1.size
             clear hown1 hgrow1)))
      go_roundw
      case rel =>
        refine ⟨k + 1, by omega, by go_num, by omega, ⟨_, HOWN1.out, ?_⟩, hbl.out.grown HG1.out (by omega) (fun j hj => by cases hj; exact Nat.le_refl _)⟩
        rw [take_snocI l k hkl, ← HX.out]
        exact HD.out.put HOWN.out.isMap (HOWN.out.tidy lawB) x _
      case measure => simp [intOf]; omega
    · obtain rfl : k = N := by omega
      have hkm2 : decide ((k : Int) < (k : Int)) = false := decide_eq_false (by omega)
      obtain ⟨D, hown, hD⟩ := hst.out
      rw [HN.out, List.take_length] at hD
      have hla' : Reads wr wr.heap.size 1 A la.length (bs la) := (H.out.below hbl.out).more (Nat.le_of_lt hsz)
      have hc1 := copied_b wr A c la hla' (by omega)
      have HC1 := Lib.hid hc1
      have HOWN := Lib.hid hown
      have HD := Lib.hid hD
      have HN1 : Hid (l.length ≤ 1000) := by rw [← HN.out]; exact hl
      clear hc1 hla' hown hD
      go_wp2_with (first
        | (go_at_call 12
           go_must (
             (refine HC1.out.mono ?_)
             rintro e w1 ⟨g, cs, rfl, hb, hn1, hm1, ht1, hB1, hbel⟩
             have HROW : Hid (Row8 wr w1 wr.heap.size g cs la) := ⟨hbel, hB1, hbel.size, hb, hn1, hm1, ht1⟩
             have HOWN2 : Hid (w1.ownsMap Try.prog 5 unitElem w.heap.size k D) := ownsMap_below HOWN.out hbel hsz
             clear hb hn1 hm1 ht1 hbel))
        | (go_at_call 11
           go_must (
             (refine (marshalB wr _ wr.heap.size w.heap.size g k D cs la l HROW.out (by omega) HOWN2.out hsz HD.out h0 HN1.out HWF.out).mono ?_)
             rintro e w2 ⟨g2, cs2, out, hso, rfl, h1, h2, h3, h4, h5, h6, h7⟩
             have HSO := Lib.hid hso
             have HB2 := Lib.hid h4
             have HN2 := Lib.hid h5
             have HT2 := Lib.hid h7
             have HW2 : Hid (Below w.heap.size w w2) := hbl.out.trans (h1.mono (Nat.le_of_lt hsz))
             have hg2 : w.heap.size ≤ g2 := by omega
             clear hso h1 h3 h4 h5 h7)))
      go_ret
      exact ⟨out, HSO.out, g2, cs2, by first | rfl | simp, HB2.out, HN2.out, h6, HT2.out, hg2, HW2.out⟩

set_option maxHeartbeats 4000000 in
set_option maxRecDepth 100000 in
theorem putI (w : World) (A Al : Option Addr) (c cl N : Nat) (la l : List Int) (hN : N = l.length) (h : Reads w w.heap.size 1 A la.length (bs la)) (hr : Reads w w.heap.size 1 Al N (l.map (Value.int .i32))) (hla : la.length ≤ 1000) (h0 : l ≠ []) (hl : N ≤ 1000) (hwf : ∀ x ∈ l, -2147483648 ≤ x ∧ x ≤ 2147483647) :
    Calls Try.prog 9 #[.slice A la.length c, .slice Al N cl] w fun e w' => ∃ out, SetOf l out ∧ AppB w w.heap.size (la ++ (encA out.length ++ out.flatMap encI)) e w' := by
  have H := Lib.hid h
  have HR := Lib.hid hr
  have HWF := Lib.hid hwf
  have HN := Lib.hid hN
  have hmm := @run_makeMap Try.prog
  clear h hr hwf hN
  go_enter Try.func9, Try.ntmps9
  go_wp2
  go_loopw [13] (fun i wr => ∃ k : Nat, k ≤ N ∧ i = .int .i64 (k : Nat) ∧ w.heap.size < wr.heap.size ∧ Hid (∃ D : DataW Unit, wr.ownsMap Try.prog 21 unitElem w.heap.size k D ∧ KeysI .i32 D (l.take k)) ∧ Hid (Below w.heap.size w wr)) (fun i _ => N - (intOf i).toNat)
  case atStart =>
    exact ⟨0, Nat.zero_le _, rfl, by simp, ⟨_, World.ownsMap_made _ _ _ _, by rw [List.take_zero]; exact KeysI.nil _⟩, (Below.refl _ _).alloc (Nat.le_refl _) _⟩
  case round =>
    obtain ⟨k, hk, rfl, hsz, hst, hbl⟩ := hrel
    by_cases hlt : k < N
    · have hkm2 : decide ((k : Int) < (N : Int)) = true := decide_eq_true (by omega)
      obtain ⟨ad, hA, hadB, hkl, hcell0⟩ := HR.out.list hlt
      subst hA
      have hcell : wr.cell? (ad.add k) = some (.int .i32 (l.getD k 0)) := (hbl.out.cell (by rw [block_of_add]; exact hadB)).trans hcell0
      obtain ⟨x, hX⟩ : ∃ x, x = l.getD k 0 := ⟨_, rfl⟩
      have hx := HWF.out x (by rw [hX]; exact getD_memS l k hkl)
      rw [← hX] at hcell
      have HX := Lib.hid hX
      have hkey : keyOf Try.prog 21 (.int .i32 x) = some (.int .i32 x) := keyOf_int_mk Try.underlying21 (by simp [Lit.wf, IntKind.min, IntKind.max, IntKind.bits, IntKind.signed]; omega)
      have HKEY := Lib.hid hkey
      clear hcell0 hX hkey
      obtain ⟨D, hown, hD⟩ := hst.out
      have HOWN := Lib.hid hown
      have HD := Lib.hid hD
      clear hown hD
      go_wp2_with (first
        | (at_mapUpdate
           go_must (
             refine wpList_mapUpdate_own _ rfl _ _ _ 47 rfl 21 38 lawI Try.underlying47 (unitElem (H := Unit)) w.heap.size k D rfl HOWN.out (by unfold maxLen; omega) _ _ _ rfl rfl HKEY.out _ [] unitElem_mk ?_
             intro w1 hown1 hgrow1
             have HOWN1 := Lib.hid hown1
             have HG1 := Lib.hid hgrow1
             have hq1 := hgrow1.size
             clear hown1 hgrow1)))
      go_roundw
      case rel =>
        refine ⟨k + 1, by omega, by go_num, by omega, ⟨_, HOWN1.out, ?_⟩, hbl.out.grown HG1.out (by omega) (fun j hj => by cases hj; exact Nat.le_refl _)⟩
        rw [take_snocI l k hkl, ← HX.out]
        exact HD.out.put HOWN.out.isMap (HOWN.out.tidy lawI) x _
      case measure => simp [intOf]; omega
    · obtain rfl : k = N := by omega
      have hkm2 : decide ((k : Int) < (k : Int)) = false := decide_eq_false (by omega)
      obtain ⟨D, hown, hD⟩ := hst.out
      rw [HN.out, List.take_length] at hD
      have hla' : Reads wr wr.heap.size 1 A la.length (bs la) := (H.out.below hbl.out).more (Nat.le_of_lt hsz)
      have hc1 := copied_b wr A c la hla' (by omega)
      have HC1 := Lib.hid hc1
      have HOWN := Lib.hid hown
      have HD := Lib.hid hD
      have HN1 : Hid (l.length ≤ 1000) := by rw [← HN.out]; exact hl
      clear hc1 hla' hown hD
      go_wp2_with (first
        | (go_at_call 12
           go_must (
             (refine HC1.out.mono ?_)
             rintro e w1 ⟨g, cs, rfl, hb, hn1, hm1, ht1, hB1, hbel⟩
             have HROW : Hid (Row8 wr w1 wr.heap.size g cs la) := ⟨hbel, hB1, hbel.size, hb, hn1, hm1, ht1⟩
             have HOWN2 : Hid (w1.ownsMap Try.prog 21 unitElem w.heap.size k D) := ownsMap_below HOWN.out hbel hsz
             clear hb hn1 hm1 ht1 hbel))
        | (go_at_call 15
           go_must (
             (refine (marshalI wr _ wr.heap.size w.heap.size g k D cs la l HROW.out (by omega) HOWN2.out hsz HD.out h0 HN1.out HWF.out).mono ?_)
             rintro e w2 ⟨g2, cs2, out, hso, rfl, h1, h2, h3, h4, h5, h6, h7⟩
             have HSO := Lib.hid hso
             have HB2 := Lib.hid h4
             have HN2 := Lib.hid h5
             have HT2 := Lib.hid h7
             have HW2 : Hid (Below w.heap.size w w2) := hbl.out.trans (h1.mono (Nat.le_of_lt hsz))
             have hg2 : w.heap.size ≤ g2 := by omega
             clear hso h1 h3 h4 h5 h7)))
      go_ret
      exact ⟨out, HSO.out, g2, cs2, by first | rfl | simp, HB2.out, HN2.out, h6, HT2.out, hg2, HW2.out⟩
end Go.Proofs.Ytfhaddnacdjpoaa
