/- The reference's reader of JSON: a list of numbers. PRINTED by wip/genjf.py. -/
import Derived.Test.YtikpmeedjdddoaaDoorJe
namespace Go.Proofs.YtikpmeedjdddoaaDoor
open Go.RowKit
set_option linter.unusedVariables false

theorem infoPackS : (Tryd.prog.info? 28).map (fun i => (i.zero, i.size, i.bytes)) = some (some (.agg #[.int .i64 0, .int .u64 0, .string ⟨#[]⟩, .int .i64 0, .slice none 0 0]), 5, 64) := by kernel_rfl
def n5 (k u : Int) : List Value := [.int .i64 k, .int .u64 u, .string ⟨#[]⟩, .int .i64 0, .slice none 0 0]
theorem n5_one (k u : Int) : ∀ v ∈ n5 k u, v.oneCell' = true := by
  intro v hv
  simp only [n5, List.mem_cons, List.not_mem_nil, or_false] at hv
  rcases hv with rfl | rfl | rfl | rfl | rfl <;> rfl
theorem reads_fiveS (w : World) (k u : Int) (t : TypeId) : Reads (w.alloc (.cells #[.int .i64 k, .int .u64 u, .string ⟨#[]⟩, .int .i64 0, .slice none 0 0] t)) (w.heap.size + 1) 5 (some ⟨w.heap.size, 0, none⟩) 1 (n5 k u) := by
  refine ⟨rfl, fun _ => ⟨_, rfl, by simp, fun j v hv => ?_⟩⟩
  rw [add_lit, Nat.zero_add]
  exact ((Blk.new w t (n5 k u)).cell j).trans hv
theorem own_setS {w : World} {base gb n i sz : Nat} {e : TypeId} {v u : Value} {xs : List Value} (h : w.ownsRow base e sz v n xs) (hne : some gb ≠ v.ownBlock) : (w.setCell ⟨gb, i, none⟩ u).ownsRow base e sz v n xs :=
  h.kept (row := some gb) ⟨rfl, rfl, rfl, by simp, fun k _ hk => heap_setCell_other w ⟨gb, i, none⟩ k u (fun e => hk (by simp [e]))⟩ (.inr (fun e => hne e.symm))
theorem flat_snocS (f : Int → List Value) (l : List Int) (k : Nat) (h : k < l.length) : (l.take (k + 1)).flatMap f = (l.take k).flatMap f ++ f (l.getD k 0) := by
  rw [take_snocI l k h, List.flatMap_append, List.flatMap_cons, List.flatMap_nil, List.append_nil]
theorem own_grownJ {w w' : World} {base n sz : Nat} {t : TypeId} {v : Value} {xs : List Value} {row : Option Nat} (h : w.ownsRow base t sz v n xs) (hg : w.grownBy w' row) (hne : v.ownBlock ≠ none → v.ownBlock ≠ row) : w'.ownsRow base t sz v n xs := by
  rcases hv : v.ownBlock with _ | b
  · exact h.kept (row := row) hg (.inl hv)
  · exact h.kept (row := row) hg (.inr (hne (by rw [hv]; simp)))
theorem own_lowerJ {w : World} {B B' n : Nat} {e : TypeId} {size : Nat} {v : Value} {xs : List Value} (h : w.ownsRow B e size v n xs) (hB : B' ≤ B) : w.ownsRow B' e size v n xs := h.mono hB
theorem own_set5J {w : World} {base p n sz : Nat} {t : TypeId} {v : Value} {xs : List Value} (h : w.ownsRow base t sz v n xs) (hne : some p ≠ v.ownBlock) (a b c d e : Value) : (((((w.setCell ⟨p, 0, none⟩ a).setCell ⟨p, 1, none⟩ b).setCell ⟨p, 2, none⟩ c).setCell ⟨p, 3, none⟩ d).setCell ⟨p, 4, none⟩ e).ownsRow base t sz v n xs :=
  own_setS (own_setS (own_setS (own_setS (own_setS h hne) hne) hne) hne) hne
theorem JB.lt {w : World} {g : Nat} {s : ByteArray} {k : Int} (h : JB w g s k) : g < w.heap.size := Blk.lt h

set_option maxHeartbeats 8000000 in
set_option maxRecDepth 100000 in
theorem list_calls (w : World) (g : Nat) (s : ByteArray) (l T : List Int) (hT : T = 91 :: (jn l ++ [93])) (hs : StrJ s T) (n : Nat) (hn : n = l.length) (hn0 : 0 < n) (hn1 : n ≤ 1000) (hwf : ∀ x ∈ l, -4294967296 ≤ x ∧ x ≤ 4294967295) (h : JB w g s ((0 : Nat) : Int)) :
    Calls Tryd.prog 32 #[.pointer (some ⟨g, 0, none⟩), .int .i64 8, .int .u8 93, .int .i64 50] w fun e w' => ∃ A c, e = .returned (.agg #[.int .i64 8, .int .u64 0, .string ⟨#[]⟩, .int .i64 0, .slice A n c]) ∧ w'.ownsRow w.heap.size 28 5 (.slice A n c) n (l.flatMap fun x => n5 (kdJ x) (IntKind.u64.wrap x)) ∧ JB w' g s ((T.length : Nat) : Int) ∧ w.grownBy w' (some g) := by
  have hgw := h.lt
  have r1 := h.cell 1
  have f1 := h.frozen 1
  simp only [List.getElem?_cons_zero, List.getElem?_cons_succ, Int.natCast_zero] at r1
  obtain ⟨w2, hw2e⟩ : ∃ w2, w2 = ((w.setCell ⟨g, 1, none⟩ (.int .i64 1)).alloc (.cells #[.int .i64 0, .int .u64 0, .string ⟨#[]⟩, .int .i64 0, .slice none 0 0] 28)).alloc (.cells #[.int .i64 8, .int .u64 0, .string ⟨#[]⟩, .int .i64 0, .slice none 0 0] 28) := ⟨_, rfl⟩
  have HJ2 : Hid (JB w2 g s ((1 : Nat) : Int)) := by rw [hw2e]; exact ((h.set_ 1 _).alloc _).alloc _
  have HP2 : Hid (Blk w2 w.heap.size 28 z5J) := by
    rw [hw2e]
    have := Blk.new (w.setCell ⟨g, 1, none⟩ (.int .i64 1)) 28 z5J
    rw [show (w.setCell ⟨g, 1, none⟩ (.int .i64 1)).heap.size = w.heap.size by simp] at this
    exact this.alloc _
  have HV2 : Hid (Blk w2 (w.heap.size + 1) 28 [.int .i64 8, .int .u64 0, .string ⟨#[]⟩, .int .i64 0, .slice none 0 0]) := by
    rw [hw2e]
    have := Blk.new ((w.setCell ⟨g, 1, none⟩ (.int .i64 1)).alloc (.cells #[.int .i64 0, .int .u64 0, .string ⟨#[]⟩, .int .i64 0, .slice none 0 0] 28)) 28 [.int .i64 8, .int .u64 0, .string ⟨#[]⟩, .int .i64 0, .slice none 0 0]
    rwa [show ((w.setCell ⟨g, 1, none⟩ (.int .i64 1)).alloc (.cells #[.int .i64 0, .int .u64 0, .string ⟨#[]⟩, .int .i64 0, .slice none 0 0] 28)).heap.size = w.heap.size + 1 by simp] at this
  have HG2 : Hid (w.grownBy w2 (some g)) := by rw [hw2e]; exact grownJ_trans (grownJ_trans (grownJ_set _ _ _ _) (World.grownBy_alloc _ _ _)) (World.grownBy_alloc _ _ _)
  have hsz2 : w2.heap.size = w.heap.size + 2 := by rw [hw2e]; simp
  have hcutf := fun k (hk : k < n) => jn_cut l k (by omega)
  have hTl : 1 < T.length := by rw [hT]; simp
  have hlen0 : (ahead l 0).length = 1 := rfl
  obtain ⟨p0, hp0, hxx, hyy⟩ := hcutf 0 hn0
  clear hxx hyy
  rw [← hT] at hp0
  obtain ⟨hil, hif⟩ := itoaL_first (l.getD 0 0)
  have hb0 : T.getD 1 0 = (itoaL (l.getD 0 0)).getD 0 0 := by
    have := getD_mid (ahead l 0) (itoaL (l.getD 0 0)) ((if 0 + 1 = l.length then 93 else 44) :: p0) 0 hil
    rw [Nat.add_zero, hlen0] at this
    rw [hp0]; exact this
  obtain ⟨b, hbe⟩ : ∃ b, b = (itoaL (l.getD 0 0)).getD 0 0 := ⟨_, rfl⟩
  rw [← hbe] at hb0 hif
  have HE0 := Lib.hid (eat_no w2 g 1 s T hs HJ2.out hTl b 93 hb0 (by omega) (by unfold NoBlank; omega))
  have HS := Lib.hid hs
  have HT := Lib.hid hT
  have HN := Lib.hid hn
  have HWF := Lib.hid hwf
  have HW2 := Lib.hid hw2e
  have HCUT := Lib.hid hcutf
  obtain ⟨i0, hi0, hz0, hz1, hz2⟩ := info_parts infoPackS
  clear hs hT hn hwf h hw2e hcutf hTl hlen0 hp0 hil hif hb0 hbe p0
  go_enter Tryd.func32, Tryd.ntmps32
  go_wp2_with (
    (go_at_call 48)
    go_must (
      rw [← HW2.out]
      (refine HE0.out.mono ?_)
      rintro e w3 ⟨rfl, n3, hw3e⟩
      have HW3 := Lib.hid hw3e
      have HJ3 : Hid (JB w3 g s ((1 : Nat) : Int)) := by rw [hw3e]; exact HJ2.out.drewN _
      have HP3 : Hid (Blk w3 w.heap.size 28 z5J) := by rw [hw3e]; exact HP2.out.drewN _
      have HV3 : Hid (Blk w3 (w.heap.size + 1) 28 [.int .i64 8, .int .u64 0, .string ⟨#[]⟩, .int .i64 0, .slice none 0 0]) := by rw [hw3e]; exact HV2.out.drewN _
      have HG3 : Hid (w.grownBy w3 (some g)) := by rw [hw3e]; exact grownJ_drewN HG2.out _
      have hsz3 : w3.heap.size = w.heap.size + 2 := by rw [hw3e]; simp [hsz2]
      clear hw3e))
  clear r1 f1
  go_loopw [] (fun wr => ∃ (k : Nat) (A' : Option Addr) (c' : Nat), k < n ∧ w.heap.size + 2 ≤ wr.heap.size ∧ Hid (JB wr g s (((ahead l k).length : Nat) : Int) ∧ Blk wr w.heap.size 28 z5J ∧ Blk wr (w.heap.size + 1) 28 [.int .i64 8, .int .u64 0, .string ⟨#[]⟩, .int .i64 0, .slice A' k c'] ∧ wr.ownsRow (w.heap.size + 2) 28 5 (.slice A' k c') k ((l.take k).flatMap fun x => n5 (kdJ x) (IntKind.u64.wrap x)) ∧ w.grownBy wr (some g))) (fun wr => T.length - (intOf ((wr.cell? ⟨g, 1, none⟩).getD undef)).toNat)
  case atStart => exact ⟨0, none, 0, hn0, by omega, HJ3.out, HP3.out, HV3.out, World.ownsRow_nil _ _ _ _, HG3.out⟩
  case round =>
    obtain ⟨k, A', c', hk, hsz, hst⟩ := hrel
    obtain ⟨post, hp, hpl, hpn⟩ := HCUT.out k hk
    have hkl : k < l.length := by have := HN.out; omega
    obtain ⟨x, hX⟩ : ∃ x, x = l.getD k 0 := ⟨_, rfl⟩
    have hx := HWF.out x (by rw [hX]; exact getD_memS l k hkl)
    have hsn := flat_snocS (fun x => n5 (kdJ x) (IntKind.u64.wrap x)) l k hkl
    rw [← hX] at hp hpn hsn
    rw [← HT.out] at hp
    obtain ⟨c, hcE⟩ : ∃ c : Int, c = if k + 1 = l.length then 93 else 44 := ⟨_, rfl⟩
    rw [← hcE] at hp
    have hc : c = 44 ∨ c = 93 := by
      rw [hcE]; split
      · exact .inr rfl
      · exact .inl rfl
    have hval := fun m => value_num (wr.drewN m) g 49 s T HS.out x hx.1 hx.2 (ahead l k) post c hp (hst.out.1.drewN m) hc (by omega) (by omega)
    obtain ⟨q, hq⟩ : ∃ q, q = (ahead l k).length + (itoaL x).length := ⟨_, rfl⟩
    rw [← hq] at hval
    have hTq : T.getD q 0 = c := by rw [hp, hq]; exact getD_end _ _ _ _
    have hTl2 : q < T.length := by
      have := congrArg List.length hp
      simp only [List.length_append, List.length_cons] at this
      omega
    have r2 := hst.out.1.cell 2
    have HR1 := Lib.hid (hst.out.1.cell 1)
    have v0 := hst.out.2.2.1.cell 0
    have v1 := hst.out.2.2.1.cell 1
    have v2 := hst.out.2.2.1.cell 2
    have v3 := hst.out.2.2.1.cell 3
    have v4 := hst.out.2.2.1.cell 4
    simp only [List.getElem?_cons_zero, List.getElem?_cons_succ] at r2 v0 v1 v2 v3 v4
    obtain ⟨U, hU⟩ : ∃ U, U = IntKind.u64.wrap x := ⟨_, rfl⟩
    obtain ⟨K, hK⟩ : ∃ K, K = kdJ x := ⟨_, rfl⟩
    have HVAL := Lib.hid hval
    have HQ := Lib.hid hq
    have HTQ := Lib.hid hTq
    have HTL2 := Lib.hid hTl2
    have HC := Lib.hid hcE
    have HSN := Lib.hid hsn
    have HPL := Lib.hid hpl
    have HPN := Lib.hid hpn
    have HP := Lib.hid hp
    have HX := Lib.hid hX
    have HU := Lib.hid hU
    have HK := Lib.hid hK
    have hlq : q ≤ 100000 := by have := HS.out.2.1; omega
    clear hval hq hTq hTl2 hcE hsn hpl hpn hp hX hU hK hx hc
    go_wp2
    go_region_law (first
      | (refine step_append_lies _ rfl (.tmp 70) (.tmp 75) 26 rfl (w.heap.size + 2) 28 i0 _ 5 64 Tryd.underlying26 hi0 hz0 hz1 hz2 rfl (by omega) (.slice A' k c') k _ rfl (HO5.out.alloc _) ⟨w5.heap.size, 0, none⟩ 1 1 (n5 K U) rfl rfl (fun j u hu => by have := (reads_fiveS w5 K U 28).2 (by omega); obtain ⟨ad, had, _, hcc⟩ := this; cases had; exact hcc j u hu) (n5_one _ _) (by omega) (by simp only [maxLen]; omega) (by omega) (by simp; omega) (w5.heap.size + 1) (by simp) ?_
         intro g6 cap6 w6 hown6 hg6 hat6 hlt6
         have HO6 := Lib.hid hown6
         have HG6 := Lib.hid hg6
         have hne6 : some (w.heap.size + 1) ≠ (Value.slice A' k c').ownBlock := fun e => by have := (HO5.out.lt _ e.symm).1; omega
         have hv6 : Blk w6 (w.heap.size + 1) 28 [.int .i64 8, .int .u64 0, .string ⟨#[]⟩, .int .i64 0, .slice A' k c'] := (HV5.out.alloc _).grown hg6 hne6
         have y4 := hv6.cell 4
         simp only [List.getElem?_cons_zero, List.getElem?_cons_succ] at y4
         have g4 := hv6.frozen 4
         have HV6 := Lib.hid hv6
         clear hown6 hg6 hat6 hv6 hne6)
      | (go_simp
         go_at_call 21
         (refine (HVAL.out _).mono ?_)
         rintro e w5 ⟨rfl, hj5, hg5⟩
         unfold vJ
         rw [← HU.out, ← HK.out]
         have hq5 : wr.heap.size ≤ w5.heap.size := hg5.size
         have hlt5 : w.heap.size + 1 < w5.heap.size := by omega
         have hlt50 : w.heap.size < w5.heap.size := by omega
         have HJ5 := Lib.hid hj5
         have HG5 := Lib.hid hg5
         have HP5 : Hid (Blk w5 w.heap.size 28 z5J) := (hst.out.2.1.drewN _).grown hg5 (by intro e; injection e with e; omega)
         have HV5 : Hid (Blk w5 (w.heap.size + 1) 28 [.int .i64 8, .int .u64 0, .string ⟨#[]⟩, .int .i64 0, .slice A' k c']) := (hst.out.2.2.1.drewN _).grown hg5 (by intro e; injection e with e; omega)
         have HO5 : Hid (w5.ownsRow (w.heap.size + 2) 28 5 (.slice A' k c') k ((l.take k).flatMap fun x => n5 (kdJ x) (IntKind.u64.wrap x))) := own_grownJ (w := wr.drewN _) hst.out.2.2.2.1 hg5 (fun _ e => by have := (hst.out.2.2.2.1.lt g e).1; omega)
         have y45 := HV5.out.cell 4
         simp only [List.getElem?_cons_zero, List.getElem?_cons_succ] at y45
         clear hj5 hg5))
    all_goals
      obtain ⟨w7, hw7e⟩ : ∃ w7, w7 = w6.setCell ⟨w.heap.size + 1, 4, none⟩ (.slice (some ⟨g6, 0, none⟩) (k + 1) cap6) := ⟨_, rfl⟩
      rw [← hw7e]
      have hrow6 : ∀ j, (Value.slice A' k c').ownBlock = some j → w.heap.size + 2 ≤ j := fun j hj => (HO5.out.lt j hj).1
      have hgo : some g ≠ (Value.slice A' k c').ownBlock := fun e => by have := hrow6 g e.symm; omega
      have hpo : some w.heap.size ≠ (Value.slice A' k c').ownBlock := fun e => by have := hrow6 _ e.symm; omega
      have hq6 : w5.heap.size + 1 ≤ w6.heap.size := by have := HG6.out.size; simpa using this
      have HJ7 : Hid (JB w7 g s (q : Int)) := by rw [hw7e]; exact Blk.far (Blk.grown (HJ5.out.alloc _) HG6.out hgo) (by simp; omega) _
      have HP7 : Hid (Blk w7 w.heap.size 28 z5J) := by rw [hw7e]; exact Blk.far (Blk.grown (HP5.out.alloc _) HG6.out hpo) (by simp) _
      have HV7 : Hid (Blk w7 (w.heap.size + 1) 28 [.int .i64 8, .int .u64 0, .string ⟨#[]⟩, .int .i64 0, .slice (some ⟨g6, 0, none⟩) (k + 1) cap6]) := by rw [hw7e]; exact HV6.out.set_ 4 _
      have HO7 : Hid (w7.ownsRow (w.heap.size + 2) 28 5 (.slice (some ⟨g6, 0, none⟩) (k + 1) cap6) (k + 1) ((l.take (k + 1)).flatMap fun x => n5 (kdJ x) (IntKind.u64.wrap x))) := by
        rw [hw7e, HSN.out, ← HU.out, ← HK.out]
        exact own_setS HO6.out (fun e => by have := (HO6.out.lt _ e.symm).1; omega)
      have HG7 : Hid (w.grownBy w7 (some g)) := by
        rw [hw7e]
        refine grownJ_far ?_ (by omega) 4 _
        have h1 : w.grownBy w5 (some g) := grownJ_trans (grownJ_drewN hst.out.2.2.2.2 _) HG5.out
        have h2 := grownJ_trans h1 (World.grownBy_alloc w5 (.cells #[.int .i64 K, .int .u64 U, .string ⟨#[]⟩, .int .i64 0, .slice none 0 0] 28) (some g))
        exact ⟨HG6.out.os.trans h2.os, HG6.out.tape.trans h2.tape, HG6.out.output.trans h2.output, Nat.le_trans h2.size HG6.out.size, fun j hj hr => (HG6.out.block j (Nat.lt_of_lt_of_le hj h2.size) (fun e => by have := hrow6 j e.symm; omega)).trans (h2.block j hj hr)⟩
      have hsz7 : w.heap.size + 2 ≤ w7.heap.size := by rw [hw7e]; simp; omega
      clear hw7e hrow6 hgo hpo y4 g4 y45
      by_cases hkn : k + 1 = n
      · have hc93 : c = 93 := by rw [HC.out, if_pos (by have := HN.out; omega)]
        have heat := eat_yes w7 g q s T HS.out HJ7.out HTL2.out 93 (by rw [HTQ.out, hc93]) (by unfold NoBlank; omega)
        have HEAT := Lib.hid heat
        clear heat
        go_wp2_with (
          (go_at_call 48)
          go_must (
            (refine HEAT.out.mono ?_)
            rintro e w8 ⟨rfl, hj8, hg8⟩
            have hp8 : Blk w8 w.heap.size 28 z5J := HP7.out.grown hg8 (by intro e; injection e with e; omega)
            have hv8 : Blk w8 (w.heap.size + 1) 28 [.int .i64 8, .int .u64 0, .string ⟨#[]⟩, .int .i64 0, .slice (some ⟨g6, 0, none⟩) (k + 1) cap6] := HV7.out.grown hg8 (by intro e; injection e with e; omega)
            obtain ⟨c0, c1, c2, c3, c4⟩ := blk_cells5 hp8
            obtain ⟨e0, e1, e2, e3, e4⟩ := blk_cells5 hv8
            have fz : ∀ j, w8.frozen? ⟨w.heap.size, j, none⟩ = false := fun j => hp8.frozen j
            have HO8 : Hid (w8.ownsRow (w.heap.size + 2) 28 5 (.slice (some ⟨g6, 0, none⟩) (k + 1) cap6) (k + 1) ((l.take (k + 1)).flatMap fun x => n5 (kdJ x) (IntKind.u64.wrap x))) := own_grownJ HO7.out hg8 (fun _ e => by have := (HO7.out.lt g e).1; omega)
            have HP8 := Lib.hid hp8
            have HJ8 := Lib.hid hj8
            have HG8 : Hid (w.grownBy w8 (some g)) := grownJ_trans HG7.out hg8
            clear hp8 hv8 hj8 hg8))
        (try simp only [Exit.inBlock, Exit.then])
        refine bodyPost_ret (results_cell0 rfl _ rfl (blk_set5 HP8.out _ _ _ _ _) Tryd.underlying28 rfl (by kernel_rfl)) rfl ?_
        have hT9 : T.length = q + 1 := by
          have := congrArg List.length HP.out
          rw [HPL.out (by have := HN.out; omega)] at this
          simp only [List.length_append, List.length_cons, List.length_nil] at this
          have := HQ.out
          omega
        refine ⟨some ⟨g6, 0, none⟩, cap6, by rw [← hkn], ?_, ?_, grownJ_far5 HG8.out (Nat.le_refl _) _ _ _ _ _⟩
        · rw [← hkn]
          have hall : l.take (k + 1) = l := by rw [hkn, HN.out, List.take_length]
          have := HO8.out
          rw [hall] at this
          exact own_lowerJ (own_set5J this (fun e => by have := (HO8.out.lt _ e.symm).1; omega) _ _ _ _ _) (by omega)
        · rw [hT9]
          exact far_set5J HJ8.out (Nat.ne_of_lt hgw) _ _ _ _ _
      · have hc44 : c = 44 := by rw [HC.out, if_neg (by have := HN.out; omega)]
        have heat := eat_no w7 g q s T HS.out HJ7.out HTL2.out 44 93 (by rw [HTQ.out, hc44]) (by omega) (by unfold NoBlank; omega)
        have heat2 := fun m => eat_yes (w7.drewN m) g q s T HS.out (HJ7.out.drewN m) HTL2.out 44 (by rw [HTQ.out, hc44]) (by unfold NoBlank; omega)
        have HEAT := Lib.hid heat
        have HEAT2 := Lib.hid heat2
        clear heat heat2
        go_wp2_with (first
          | (go_at_call 48
             (with_reducible refine (HEAT.out).mono ?_)
             rintro e w8 ⟨rfl, n8, rfl⟩)
          | (go_at_call 48
             (with_reducible refine (HEAT2.out _).mono ?_)
             rintro e w9 ⟨rfl, hj9, hg9⟩
             have HJ9 := Lib.hid hj9
             have HG9 := Lib.hid hg9
             have hq9 : w7.heap.size ≤ w9.heap.size := hg9.size
             clear hj9 hg9))
        go_roundw
        case rel =>
          have hk2 := HPN.out (by have := HN.out; omega)
          have hla : (ahead l (k + 1)).length = q + 1 := by
            rw [hk2, HQ.out]; simp only [List.length_append, List.length_cons, List.length_nil]; omega
          refine ⟨k + 1, some ⟨g6, 0, none⟩, cap6, by omega, by omega, ?_, (HP7.out.drewN _).grown HG9.out (by intro e; injection e with e; omega), (HV7.out.drewN _).grown HG9.out (by intro e; injection e with e; omega), own_grownJ (w := w7.drewN _) HO7.out HG9.out (fun _ e => by have := (HO7.out.lt g e).1; omega), grownJ_trans (grownJ_drewN HG7.out _) HG9.out⟩
          rw [hla]; exact HJ9.out
        case measure =>
          rw [HR1.out, HJ9.out.cell 1]
          have h1 := HTL2.out
          have h2 := HQ.out
          simp [intOf]
          omega
end Go.Proofs.YtikpmeedjdddoaaDoor
