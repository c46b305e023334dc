/- UnmarshalMsg of the sorted sets of int16, uint64, int. PRINTED by wip/gensq.py. -/
import Derived.Test.YtfhaddnacdjpoaaDoorSo
import Derived.Test.YtfhaddnacdjpoaaDoorSl
import Derived.Test.YtfhaddnacdjpoaaDoorSm
import Derived.Carry
import Derived.WalkSpells
namespace Go.Proofs.YtfhaddnacdjpoaaDoor
open Go.RowKit Go.Maps Go.Sort Go.ChangeShapes Go.WideShapes Go.Shelf
set_option linter.unusedVariables false

/-- k texts from the m-th on, one behind the other. -/
def catF (es : Nat → List Int) : Nat → Nat → List Int
  | _, 0 => []
  | m, k + 1 => es m ++ catF es (m + 1) k
theorem catF_snoc (es : Nat → List Int) : ∀ k m, catF es m (k + 1) = catF es m k ++ es (m + k)
  | 0, m => by simp [catF]
  | k + 1, m => by
    rw [catF, catF_snoc es k (m + 1), catF, List.append_assoc, show m + 1 + k = m + (k + 1) by omega]
theorem catN_catF (es : Nat → List Int) : ∀ n, catN es n = catF es 0 n
  | 0 => rfl
  | n + 1 => by rw [catN, catN_catF es n, catF_snoc, Nat.zero_add]
theorem Reads.setFar {w : World} {B n : Nat} {A : Option Addr} {l : List Int} {p : Addr} (h : Reads w B 1 A n (bs l)) (hp : w.cell? p = some (.map none)) (u : Value) : Reads (w.setCell p u) B 1 A n (bs l) := by
  refine ⟨h.1, fun hn => ?_⟩
  obtain ⟨ad, e, hb, hc⟩ := h.2 hn
  refine ⟨ad, e, hb, fun j v hv => ?_⟩
  have hj := hc j v hv
  rw [World.cell?_setCell_other w p (ad.add j) u (fun e => ?_)]
  · exact hj
  · rw [← e, hp] at hj
    cases hj
    simp [bs] at hv
theorem ownsMap_set {P : Program} {K : TypeId} {R : Value → Option (DataW Unit × List MemPlace)} {w : World} {g b n : Nat} {D : DataW Unit} {v : Value} (h : w.ownsMap P K R b n D) (hne : g ≠ b) : (w.setCell ⟨g, 0, none⟩ v).ownsMap P K R b n D := by
  exact h.kept (grown_set w g 0 v) (fun e => hne (by injection e with e; exact e.symm))
theorem ownsMap_below {w w' : World} {P : Program} {k : TypeId} {R : Value → Option (DataW Unit × List MemPlace)} {b n B : Nat} {D : DataW Unit} (h : w.ownsMap P k R b n D) (hb : Below B w w') (hlt : b < B) : w'.ownsMap P k R b n D := by
  obtain ⟨es, clock, h1, h2⟩ := h
  exact ⟨es, clock, (hb.block b hlt).trans h1, h2⟩

set_option maxHeartbeats 4000000 in
set_option maxRecDepth 100000 in
theorem unmH (w : World) (B gs c N : Nat) (A : Option Addr) (hd tot : List Int) (es : Nat → List Int) (l : List Int) (hN : N = l.length) (hl : N ≤ 1000) (hf : HeadX N 144 16 [(220, 2), (221, 4)] hd) (he : ∀ i, i < N → IntF (l.getD i 0) (es i)) (hwf : ∀ x ∈ l, -32768 ≤ x ∧ x ≤ 32767)
    (h : Reads w B 1 A (hd ++ (catF es 0 N ++ tot)).length (bs (hd ++ (catF es 0 N ++ tot)))) (hmc : (hd ++ (catF es 0 N ++ tot)).length ≤ c) (hcm : c ≤ maxLen) (hB : B ≤ w.heap.size) (hgs : Blk w gs 53 [.map none]) :
    Calls Tryd.prog 18 #[.pointer (some ⟨gs, 0, none⟩), .slice A (hd ++ (catF es 0 N ++ tot)).length c] w fun e w' => ∃ (A' : Option Addr) (c' b : Nat) (D : DataW Unit), e = .returned (.tuple #[.slice A' tot.length c', .nilIface]) ∧ tot.length ≤ c' ∧ c' ≤ maxLen ∧ Reads w' B 1 A' tot.length (bs tot) ∧ Blk w' gs 53 [.map (some b)] ∧ w'.ownsMap Tryd.prog 27 unitElem b N D ∧ KeysI .i16 D l ∧ w.heap.size ≤ b ∧ w.grownBy w' (some gs) := by
  have hC0 := nilA_no w B c A N hd hf (catF es 0 N ++ tot) h hmc hcm
  have hC1 := RAH_in w B c A N hd hf hl (catF es 0 N ++ tot) h hmc hcm hB
  obtain ⟨L0, hL0⟩ : ∃ L0, L0 = (hd ++ (catF es 0 N ++ tot)).length := ⟨_, rfl⟩
  rw [← hL0] at hC0 hC1 ⊢
  have hgw := hgs.lt
  have r0 := hgs.cell 0
  simp only [List.getElem?_cons_zero] at r0
  have HGS := Lib.hid hgs
  have HC0 := Lib.hid hC0
  have HC1 := Lib.hid hC1
  have HE := Lib.hid he
  have HWF := Lib.hid hwf
  have HN := Lib.hid hN
  have HB := Lib.hid hB
  have hmm : ∀ W : World, (Instr.makeMap 53 (some (.int .u32 (N : Int)))).run Tryd.prog W = .ok (.map (some W.heap.size)) (W.alloc (.map #[] 0)) := fun W => by
    simp [Instr.makeMap, run_underlying Tryd.underlying53, asInt]; rfl
  have qT : ∀ W : World, (binOp .eql 53 (.map none) (.map none)).run Tryd.prog W = .ok (.bool true) W := fun W => run_eql_map_nil W _ _ _ none Tryd.underlying53
  clear hgs hC0 hC1 he hwf hN hB h hmc hcm hf hL0
  go_enter Tryd.func18, Tryd.ntmps18
  go_wp2_with (first
    | (go_at_call 29
       go_must (
         (refine HC0.out.mono ?_)
         rintro e w1 ⟨rfl, rfl⟩))
    | (go_at_call 30
       go_must (
         (refine HC1.out.mono ?_)
         rintro e w1 ⟨A1, c1, rfl, hl1, hm1, hr1, hb1⟩
         obtain ⟨L1, hL1⟩ : ∃ L1, L1 = (catF es 0 N ++ tot).length := ⟨_, rfl⟩
         rw [← hL1] at hl1 hr1 ⊢
         have r1 : w1.cell? ⟨gs, 0, none⟩ = some (.map none) := (hb1.cell (p := ⟨gs, 0, none⟩) hgw).trans r0
         have HL1 := Lib.hid hL1
         have HR1 := Lib.hid hr1
         have HB1 := Lib.hid hb1
         have hq1 := hb1.size
         have HM1 := Lib.hid (And.intro hl1 hm1)
         clear hL1 hr1 hb1 hl1 hm1)))
  go_loopw [1, 34] (fun v i wr => ∃ (m L : Nat) (A' : Option Addr) (c' : Nat), m ≤ N ∧ i = .int .u32 (m : Nat) ∧ v = .slice A' L c' ∧ w1.heap.size < wr.heap.size ∧ Hid (L = (catF es m (N - m) ++ tot).length ∧ L ≤ c' ∧ c' ≤ maxLen ∧ Reads wr B 1 A' L (bs (catF es m (N - m) ++ tot))) ∧ Hid (∃ D : DataW Unit, wr.ownsMap Tryd.prog 27 unitElem w1.heap.size m D ∧ KeysI .i16 D (l.take m)) ∧ Hid (Below w.heap.size w wr)) (fun _ i _ => N - (intOf i).toNat)
  case atStart =>
    exact ⟨0, L1, A1, c1, Nat.zero_le _, rfl, rfl, by simp, ⟨HL1.out, HM1.out.1, HM1.out.2, HR1.out.alloc (Nat.le_trans HB.out hq1) _⟩, ⟨_, World.ownsMap_made _ _ _ _, by rw [List.take_zero]; exact KeysI.nil _⟩, HB1.out.alloc hq1 _⟩
  case round =>
    obtain ⟨m, L, A', c', hm, rfl, rfl, hsz, hrd, hst, hbl⟩ := hrel
    have hq2 := hbl.out.size
    by_cases hlt : m < N
    · have hkm2 : decide ((m : Int) < (N : Int)) = true := decide_eq_true (by omega)
      obtain ⟨x, hX⟩ : ∃ x, x = l.getD m 0 := ⟨_, rfl⟩
      have hml : m < l.length := by rw [← HN.out]; exact hlt
      have hx := HWF.out x (by rw [hX]; exact getD_memS l m hml)
      have hcat : catF es m (N - m) = es m ++ catF es (m + 1) (N - (m + 1)) := by
        rw [show N - m = (N - (m + 1)) + 1 by omega]; rfl
      have hC2 := (fun (hr : Hid (L = (es m ++ (catF es (m + 1) (N - (m + 1)) ++ tot)).length ∧ L ≤ c' ∧ c' ≤ maxLen ∧ Reads wr B 1 A' L (bs (es m ++ (catF es (m + 1) (N - (m + 1)) ++ tot))))) => by
        obtain ⟨e1, e2, e3, e4⟩ := hr.out
        subst e1
        exact itemH wr B c' A' x (es m) (by rw [hX]; exact HE.out m hlt) hx.1 hx.2 _ e4 e2 e3 (by have := HB.out; omega) : Hid (L = (es m ++ (catF es (m + 1) (N - (m + 1)) ++ tot)).length ∧ L ≤ c' ∧ c' ≤ maxLen ∧ Reads wr B 1 A' L (bs (es m ++ (catF es (m + 1) (N - (m + 1)) ++ tot)))) → Calls Tryd.prog 31 #[.slice A' L c'] wr (RB .i16 x (catF es (m + 1) (N - (m + 1)) ++ tot) B wr)) (by rw [hcat, List.append_assoc] at hrd; exact hrd)
      have hkey : keyOf Tryd.prog 27 (.int .i16 x) = some (.int .i16 x) := keyOf_int_mk Tryd.underlying27 (by simp [Lit.wf, IntKind.min, IntKind.max, IntKind.bits, IntKind.signed]; omega)
      have HKEY := Lib.hid hkey
      have HX := Lib.hid hX
      have HC2 := Lib.hid hC2
      clear hrd hkey hX hC2 hcat hx
      obtain ⟨D, hown, hD⟩ := hst.out
      have HOWN := Lib.hid hown
      have HD := Lib.hid hD
      clear hown hD
      go_wp2_with (first
        | (go_at_call 31
           go_must (
             (refine HC2.out.mono ?_)
             rintro e w2 ⟨A2, c2, rfl, hl2, hm2, hr2, hb2⟩
             obtain ⟨L2, hL2⟩ : ∃ L2, L2 = (catF es (m + 1) (N - (m + 1)) ++ tot).length := ⟨_, rfl⟩
             rw [← hL2] at hl2 hr2 ⊢
             have HL2 := Lib.hid hL2
             have HR2 := Lib.hid hr2
             have HB2 := Lib.hid hb2
             have hq3 := hb2.size
             have HM2 := Lib.hid (And.intro hl2 hm2)
             have HOWN2 : Hid (w2.ownsMap Tryd.prog 27 unitElem w1.heap.size m D) := ownsMap_below HOWN.out hb2 hsz
             clear hL2 hr2 hb2 hl2 hm2))
        | (at_mapUpdate
           go_must (
             refine wpList_mapUpdate_own _ rfl _ _ _ 53 rfl 27 79 lawH Tryd.underlying53 (unitElem (H := Unit)) w1.heap.size m D rfl HOWN2.out (by unfold maxLen; omega) _ _ _ rfl rfl HKEY.out _ [] unitElem_mk ?_
             intro w3 hown3 hgrow3
             have HOWN3 := Lib.hid hown3
             have HG3 := Lib.hid hgrow3
             have hq4 := hgrow3.size
             clear hown3 hgrow3)))
      go_roundw
      case rel =>
        have hbm : Below w.heap.size w w2 := hbl.out.trans (HB2.out.mono hq2)
        have hB3 : B ≤ w.heap.size := HB.out
        refine ⟨m + 1, L2, A2, c2, by omega, by go_num, by first | trivial | rfl, by omega, ⟨HL2.out, HM2.out.1, HM2.out.2, HR2.out.grown HG3.out (by omega) (fun j hj => by cases hj; omega)⟩, ⟨_, HOWN3.out, ?_⟩, hbm.grown HG3.out (by omega) (fun j hj => by cases hj; omega)⟩
        rw [take_snocI l m hml, ← HX.out]
        exact HD.out.put HOWN.out.isMap (HOWN.out.tidy lawH) x _
      case measure => simp [intOf]; omega
    · obtain rfl : m = N := by omega
      have hkm2 : decide ((m : Int) < (m : Int)) = false := decide_eq_false (by omega)
      have r2 : wr.cell? ⟨gs, 0, none⟩ = some (.map none) := (hbl.out.cell (p := ⟨gs, 0, none⟩) hgw).trans r0
      have hgb : Blk wr gs 53 [.map none] := HGS.out.below hbl.out hgw
      have f2 := hgb.frozen 0
      have HGB := Lib.hid hgb
      obtain ⟨D, hown, hD⟩ := hst.out
      rw [HN.out, List.take_length] at hD
      have HOWN := Lib.hid hown
      have HD := Lib.hid hD
      clear hown hD hgb hst
      have hrd2 : Hid (L = tot.length ∧ L ≤ c' ∧ c' ≤ maxLen ∧ Reads wr B 1 A' L (bs tot)) := by
        have := hrd.out
        rw [Nat.sub_self] at this
        exact this
      clear hrd
      go_wp2
      ((try simp only [Exit.inBlock, Exit.then]); refine bodyPost_ret (results_tmp2 rfl _ _ _) rfl ?_)
      obtain ⟨e1, e2, e3, e4⟩ := hrd2.out
      have hne : gs ≠ w1.heap.size := by omega
      refine ⟨A', c', w1.heap.size, D, (by rw [← e1]; rfl), (by rw [← e1]; exact e2), e3, (by have := e4.setFar r2 (.map (some w1.heap.size)); rw [e1] at this; exact this), HGB.out.set_ 0 _, ?_, HD.out, hq1, grownP_trans (belowP_grown hbl.out _) (grown_set _ _ _ _)⟩
      exact ownsMap_set HOWN.out hne

set_option maxHeartbeats 4000000 in
set_option maxRecDepth 100000 in
theorem unmU (w : World) (B gs c N : Nat) (A : Option Addr) (hd tot : List Int) (es : Nat → List Int) (l : List Int) (hN : N = l.length) (hl : N ≤ 1000) (hf : HeadX N 144 16 [(220, 2), (221, 4)] hd) (he : ∀ i, i < N → IntF (l.getD i 0) (es i)) (hwf : ∀ x ∈ l, 0 ≤ x ∧ x ≤ 18446744073709551615)
    (h : Reads w B 1 A (hd ++ (catF es 0 N ++ tot)).length (bs (hd ++ (catF es 0 N ++ tot)))) (hmc : (hd ++ (catF es 0 N ++ tot)).length ≤ c) (hcm : c ≤ maxLen) (hB : B ≤ w.heap.size) (hgs : Blk w gs 67 [.map none]) :
    Calls Tryd.prog 25 #[.pointer (some ⟨gs, 0, none⟩), .slice A (hd ++ (catF es 0 N ++ tot)).length c] w fun e w' => ∃ (A' : Option Addr) (c' b : Nat) (D : DataW Unit), e = .returned (.tuple #[.slice A' tot.length c', .nilIface]) ∧ tot.length ≤ c' ∧ c' ≤ maxLen ∧ Reads w' B 1 A' tot.length (bs tot) ∧ Blk w' gs 67 [.map (some b)] ∧ w'.ownsMap Tryd.prog 23 unitElem b N D ∧ KeysI .u64 D l ∧ w.heap.size ≤ b ∧ w.grownBy w' (some gs) := by
  have hC0 := nilA_no w B c A N hd hf (catF es 0 N ++ tot) h hmc hcm
  have hC1 := RAH_in w B c A N hd hf hl (catF es 0 N ++ tot) h hmc hcm hB
  obtain ⟨L0, hL0⟩ : ∃ L0, L0 = (hd ++ (catF es 0 N ++ tot)).length := ⟨_, rfl⟩
  rw [← hL0] at hC0 hC1 ⊢
  have hgw := hgs.lt
  have r0 := hgs.cell 0
  simp only [List.getElem?_cons_zero] at r0
  have HGS := Lib.hid hgs
  have HC0 := Lib.hid hC0
  have HC1 := Lib.hid hC1
  have HE := Lib.hid he
  have HWF := Lib.hid hwf
  have HN := Lib.hid hN
  have HB := Lib.hid hB
  have hmm : ∀ W : World, (Instr.makeMap 67 (some (.int .u32 (N : Int)))).run Tryd.prog W = .ok (.map (some W.heap.size)) (W.alloc (.map #[] 0)) := fun W => by
    simp [Instr.makeMap, run_underlying Tryd.underlying67, asInt]; rfl
  have qT : ∀ W : World, (binOp .eql 67 (.map none) (.map none)).run Tryd.prog W = .ok (.bool true) W := fun W => run_eql_map_nil W _ _ _ none Tryd.underlying67
  clear hgs hC0 hC1 he hwf hN hB h hmc hcm hf hL0
  go_enter Tryd.func25, Tryd.ntmps25
  go_wp2_with (first
    | (go_at_call 29
       go_must (
         (refine HC0.out.mono ?_)
         rintro e w1 ⟨rfl, rfl⟩))
    | (go_at_call 30
       go_must (
         (refine HC1.out.mono ?_)
         rintro e w1 ⟨A1, c1, rfl, hl1, hm1, hr1, hb1⟩
         obtain ⟨L1, hL1⟩ : ∃ L1, L1 = (catF es 0 N ++ tot).length := ⟨_, rfl⟩
         rw [← hL1] at hl1 hr1 ⊢
         have r1 : w1.cell? ⟨gs, 0, none⟩ = some (.map none) := (hb1.cell (p := ⟨gs, 0, none⟩) hgw).trans r0
         have HL1 := Lib.hid hL1
         have HR1 := Lib.hid hr1
         have HB1 := Lib.hid hb1
         have hq1 := hb1.size
         have HM1 := Lib.hid (And.intro hl1 hm1)
         clear hL1 hr1 hb1 hl1 hm1)))
  go_loopw [1, 34] (fun v i wr => ∃ (m L : Nat) (A' : Option Addr) (c' : Nat), m ≤ N ∧ i = .int .u32 (m : Nat) ∧ v = .slice A' L c' ∧ w1.heap.size < wr.heap.size ∧ Hid (L = (catF es m (N - m) ++ tot).length ∧ L ≤ c' ∧ c' ≤ maxLen ∧ Reads wr B 1 A' L (bs (catF es m (N - m) ++ tot))) ∧ Hid (∃ D : DataW Unit, wr.ownsMap Tryd.prog 23 unitElem w1.heap.size m D ∧ KeysI .u64 D (l.take m)) ∧ Hid (Below w.heap.size w wr)) (fun _ i _ => N - (intOf i).toNat)
  case atStart =>
    exact ⟨0, L1, A1, c1, Nat.zero_le _, rfl, rfl, by simp, ⟨HL1.out, HM1.out.1, HM1.out.2, HR1.out.alloc (Nat.le_trans HB.out hq1) _⟩, ⟨_, World.ownsMap_made _ _ _ _, by rw [List.take_zero]; exact KeysI.nil _⟩, HB1.out.alloc hq1 _⟩
  case round =>
    obtain ⟨m, L, A', c', hm, rfl, rfl, hsz, hrd, hst, hbl⟩ := hrel
    have hq2 := hbl.out.size
    by_cases hlt : m < N
    · have hkm2 : decide ((m : Int) < (N : Int)) = true := decide_eq_true (by omega)
      obtain ⟨x, hX⟩ : ∃ x, x = l.getD m 0 := ⟨_, rfl⟩
      have hml : m < l.length := by rw [← HN.out]; exact hlt
      have hx := HWF.out x (by rw [hX]; exact getD_memS l m hml)
      have hcat : catF es m (N - m) = es m ++ catF es (m + 1) (N - (m + 1)) := by
        rw [show N - m = (N - (m + 1)) + 1 by omega]; rfl
      have hC2 := (fun (hr : Hid (L = (es m ++ (catF es (m + 1) (N - (m + 1)) ++ tot)).length ∧ L ≤ c' ∧ c' ≤ maxLen ∧ Reads wr B 1 A' L (bs (es m ++ (catF es (m + 1) (N - (m + 1)) ++ tot))))) => by
        obtain ⟨e1, e2, e3, e4⟩ := hr.out
        subst e1
        exact itemU wr B c' A' x (es m) (by rw [hX]; exact HE.out m hlt) hx.1 hx.2 _ e4 e2 e3 (by have := HB.out; omega) : Hid (L = (es m ++ (catF es (m + 1) (N - (m + 1)) ++ tot)).length ∧ L ≤ c' ∧ c' ≤ maxLen ∧ Reads wr B 1 A' L (bs (es m ++ (catF es (m + 1) (N - (m + 1)) ++ tot)))) → Calls Tryd.prog 37 #[.slice A' L c'] wr (RB .u64 x (catF es (m + 1) (N - (m + 1)) ++ tot) B wr)) (by rw [hcat, List.append_assoc] at hrd; exact hrd)
      have hkey : keyOf Tryd.prog 23 (.int .u64 x) = some (.int .u64 x) := keyOf_int_mk Tryd.underlying23 (by simp [Lit.wf, IntKind.min, IntKind.max, IntKind.bits, IntKind.signed]; omega)
      have HKEY := Lib.hid hkey
      have HX := Lib.hid hX
      have HC2 := Lib.hid hC2
      clear hrd hkey hX hC2 hcat hx
      obtain ⟨D, hown, hD⟩ := hst.out
      have HOWN := Lib.hid hown
      have HD := Lib.hid hD
      clear hown hD
      go_wp2_with (first
        | (go_at_call 37
           go_must (
             (refine HC2.out.mono ?_)
             rintro e w2 ⟨A2, c2, rfl, hl2, hm2, hr2, hb2⟩
             obtain ⟨L2, hL2⟩ : ∃ L2, L2 = (catF es (m + 1) (N - (m + 1)) ++ tot).length := ⟨_, rfl⟩
             rw [← hL2] at hl2 hr2 ⊢
             have HL2 := Lib.hid hL2
             have HR2 := Lib.hid hr2
             have HB2 := Lib.hid hb2
             have hq3 := hb2.size
             have HM2 := Lib.hid (And.intro hl2 hm2)
             have HOWN2 : Hid (w2.ownsMap Tryd.prog 23 unitElem w1.heap.size m D) := ownsMap_below HOWN.out hb2 hsz
             clear hL2 hr2 hb2 hl2 hm2))
        | (at_mapUpdate
           go_must (
             refine wpList_mapUpdate_own _ rfl _ _ _ 67 rfl 23 79 lawU Tryd.underlying67 (unitElem (H := Unit)) w1.heap.size m D rfl HOWN2.out (by unfold maxLen; omega) _ _ _ rfl rfl HKEY.out _ [] unitElem_mk ?_
             intro w3 hown3 hgrow3
             have HOWN3 := Lib.hid hown3
             have HG3 := Lib.hid hgrow3
             have hq4 := hgrow3.size
             clear hown3 hgrow3)))
      go_roundw
      case rel =>
        have hbm : Below w.heap.size w w2 := hbl.out.trans (HB2.out.mono hq2)
        have hB3 : B ≤ w.heap.size := HB.out
        refine ⟨m + 1, L2, A2, c2, by omega, by go_num, by first | trivial | rfl, by omega, ⟨HL2.out, HM2.out.1, HM2.out.2, HR2.out.grown HG3.out (by omega) (fun j hj => by cases hj; omega)⟩, ⟨_, HOWN3.out, ?_⟩, hbm.grown HG3.out (by omega) (fun j hj => by cases hj; omega)⟩
        rw [take_snocI l m hml, ← HX.out]
        exact HD.out.put HOWN.out.isMap (HOWN.out.tidy lawU) x _
      case measure => simp [intOf]; omega
    · obtain rfl : m = N := by omega
      have hkm2 : decide ((m : Int) < (m : Int)) = false := decide_eq_false (by omega)
      have r2 : wr.cell? ⟨gs, 0, none⟩ = some (.map none) := (hbl.out.cell (p := ⟨gs, 0, none⟩) hgw).trans r0
      have hgb : Blk wr gs 67 [.map none] := HGS.out.below hbl.out hgw
      have f2 := hgb.frozen 0
      have HGB := Lib.hid hgb
      obtain ⟨D, hown, hD⟩ := hst.out
      rw [HN.out, List.take_length] at hD
      have HOWN := Lib.hid hown
      have HD := Lib.hid hD
      clear hown hD hgb hst
      have hrd2 : Hid (L = tot.length ∧ L ≤ c' ∧ c' ≤ maxLen ∧ Reads wr B 1 A' L (bs tot)) := by
        have := hrd.out
        rw [Nat.sub_self] at this
        exact this
      clear hrd
      go_wp2
      ((try simp only [Exit.inBlock, Exit.then]); refine bodyPost_ret (results_tmp2 rfl _ _ _) rfl ?_)
      obtain ⟨e1, e2, e3, e4⟩ := hrd2.out
      have hne : gs ≠ w1.heap.size := by omega
      refine ⟨A', c', w1.heap.size, D, (by rw [← e1]; rfl), (by rw [← e1]; exact e2), e3, (by have := e4.setFar r2 (.map (some w1.heap.size)); rw [e1] at this; exact this), HGB.out.set_ 0 _, ?_, HD.out, hq1, grownP_trans (belowP_grown hbl.out _) (grown_set _ _ _ _)⟩
      exact ownsMap_set HOWN.out hne

set_option maxHeartbeats 4000000 in
set_option maxRecDepth 100000 in
theorem unmJ (w : World) (B gs c N : Nat) (A : Option Addr) (hd tot : List Int) (es : Nat → List Int) (l : List Int) (hN : N = l.length) (hl : N ≤ 1000) (hf : HeadX N 144 16 [(220, 2), (221, 4)] hd) (he : ∀ i, i < N → IntF (l.getD i 0) (es i)) (hwf : ∀ x ∈ l, -9223372036854775808 ≤ x ∧ x ≤ 9223372036854775807)
    (h : Reads w B 1 A (hd ++ (catF es 0 N ++ tot)).length (bs (hd ++ (catF es 0 N ++ tot)))) (hmc : (hd ++ (catF es 0 N ++ tot)).length ≤ c) (hcm : c ≤ maxLen) (hB : B ≤ w.heap.size) (hgs : Blk w gs 70 [.map none]) :
    Calls Tryd.prog 27 #[.pointer (some ⟨gs, 0, none⟩), .slice A (hd ++ (catF es 0 N ++ tot)).length c] w fun e w' => ∃ (A' : Option Addr) (c' b : Nat) (D : DataW Unit), e = .returned (.tuple #[.slice A' tot.length c', .nilIface]) ∧ tot.length ≤ c' ∧ c' ≤ maxLen ∧ Reads w' B 1 A' tot.length (bs tot) ∧ Blk w' gs 70 [.map (some b)] ∧ w'.ownsMap Tryd.prog 3 unitElem b N D ∧ KeysI .i64 D l ∧ w.heap.size ≤ b ∧ w.grownBy w' (some gs) := by
  have hC0 := nilA_no w B c A N hd hf (catF es 0 N ++ tot) h hmc hcm
  have hC1 := RAH_in w B c A N hd hf hl (catF es 0 N ++ tot) h hmc hcm hB
  obtain ⟨L0, hL0⟩ : ∃ L0, L0 = (hd ++ (catF es 0 N ++ tot)).length := ⟨_, rfl⟩
  rw [← hL0] at hC0 hC1 ⊢
  have hgw := hgs.lt
  have r0 := hgs.cell 0
  simp only [List.getElem?_cons_zero] at r0
  have HGS := Lib.hid hgs
  have HC0 := Lib.hid hC0
  have HC1 := Lib.hid hC1
  have HE := Lib.hid he
  have HWF := Lib.hid hwf
  have HN := Lib.hid hN
  have HB := Lib.hid hB
  have hmm : ∀ W : World, (Instr.makeMap 70 (some (.int .u32 (N : Int)))).run Tryd.prog W = .ok (.map (some W.heap.size)) (W.alloc (.map #[] 0)) := fun W => by
    simp [Instr.makeMap, run_underlying Tryd.underlying70, asInt]; rfl
  have qT : ∀ W : World, (binOp .eql 70 (.map none) (.map none)).run Tryd.prog W = .ok (.bool true) W := fun W => run_eql_map_nil W _ _ _ none Tryd.underlying70
  clear hgs hC0 hC1 he hwf hN hB h hmc hcm hf hL0
  go_enter Tryd.func27, Tryd.ntmps27
  go_wp2_with (first
    | (go_at_call 29
       go_must (
         (refine HC0.out.mono ?_)
         rintro e w1 ⟨rfl, rfl⟩))
    | (go_at_call 30
       go_must (
         (refine HC1.out.mono ?_)
         rintro e w1 ⟨A1, c1, rfl, hl1, hm1, hr1, hb1⟩
         obtain ⟨L1, hL1⟩ : ∃ L1, L1 = (catF es 0 N ++ tot).length := ⟨_, rfl⟩
         rw [← hL1] at hl1 hr1 ⊢
         have r1 : w1.cell? ⟨gs, 0, none⟩ = some (.map none) := (hb1.cell (p := ⟨gs, 0, none⟩) hgw).trans r0
         have HL1 := Lib.hid hL1
         have HR1 := Lib.hid hr1
         have HB1 := Lib.hid hb1
         have hq1 := hb1.size
         have HM1 := Lib.hid (And.intro hl1 hm1)
         clear hL1 hr1 hb1 hl1 hm1)))
  go_loopw [1, 34] (fun v i wr => ∃ (m L : Nat) (A' : Option Addr) (c' : Nat), m ≤ N ∧ i = .int .u32 (m : Nat) ∧ v = .slice A' L c' ∧ w1.heap.size < wr.heap.size ∧ Hid (L = (catF es m (N - m) ++ tot).length ∧ L ≤ c' ∧ c' ≤ maxLen ∧ Reads wr B 1 A' L (bs (catF es m (N - m) ++ tot))) ∧ Hid (∃ D : DataW Unit, wr.ownsMap Tryd.prog 3 unitElem w1.heap.size m D ∧ KeysI .i64 D (l.take m)) ∧ Hid (Below w.heap.size w wr)) (fun _ i _ => N - (intOf i).toNat)
  case atStart =>
    exact ⟨0, L1, A1, c1, Nat.zero_le _, rfl, rfl, by simp, ⟨HL1.out, HM1.out.1, HM1.out.2, HR1.out.alloc (Nat.le_trans HB.out hq1) _⟩, ⟨_, World.ownsMap_made _ _ _ _, by rw [List.take_zero]; exact KeysI.nil _⟩, HB1.out.alloc hq1 _⟩
  case round =>
    obtain ⟨m, L, A', c', hm, rfl, rfl, hsz, hrd, hst, hbl⟩ := hrel
    have hq2 := hbl.out.size
    by_cases hlt : m < N
    · have hkm2 : decide ((m : Int) < (N : Int)) = true := decide_eq_true (by omega)
      obtain ⟨x, hX⟩ : ∃ x, x = l.getD m 0 := ⟨_, rfl⟩
      have hml : m < l.length := by rw [← HN.out]; exact hlt
      have hx := HWF.out x (by rw [hX]; exact getD_memS l m hml)
      have hcat : catF es m (N - m) = es m ++ catF es (m + 1) (N - (m + 1)) := by
        rw [show N - m = (N - (m + 1)) + 1 by omega]; rfl
      have hC2 := (fun (hr : Hid (L = (es m ++ (catF es (m + 1) (N - (m + 1)) ++ tot)).length ∧ L ≤ c' ∧ c' ≤ maxLen ∧ Reads wr B 1 A' L (bs (es m ++ (catF es (m + 1) (N - (m + 1)) ++ tot))))) => by
        obtain ⟨e1, e2, e3, e4⟩ := hr.out
        subst e1
        exact itemJ wr B c' A' x (es m) (by rw [hX]; exact HE.out m hlt) hx.1 hx.2 _ e4 e2 e3 (by have := HB.out; omega) : Hid (L = (es m ++ (catF es (m + 1) (N - (m + 1)) ++ tot)).length ∧ L ≤ c' ∧ c' ≤ maxLen ∧ Reads wr B 1 A' L (bs (es m ++ (catF es (m + 1) (N - (m + 1)) ++ tot)))) → Calls Tryd.prog 40 #[.slice A' L c'] wr (RB .i64 x (catF es (m + 1) (N - (m + 1)) ++ tot) B wr)) (by rw [hcat, List.append_assoc] at hrd; exact hrd)
      have hkey : keyOf Tryd.prog 3 (.int .i64 x) = some (.int .i64 x) := keyOf_int_mk Tryd.underlying3 (by simp [Lit.wf, IntKind.min, IntKind.max, IntKind.bits, IntKind.signed]; omega)
      have HKEY := Lib.hid hkey
      have HX := Lib.hid hX
      have HC2 := Lib.hid hC2
      clear hrd hkey hX hC2 hcat hx
      obtain ⟨D, hown, hD⟩ := hst.out
      have HOWN := Lib.hid hown
      have HD := Lib.hid hD
      clear hown hD
      go_wp2_with (first
        | (go_at_call 40
           go_must (
             (refine HC2.out.mono ?_)
             rintro e w2 ⟨A2, c2, rfl, hl2, hm2, hr2, hb2⟩
             obtain ⟨L2, hL2⟩ : ∃ L2, L2 = (catF es (m + 1) (N - (m + 1)) ++ tot).length := ⟨_, rfl⟩
             rw [← hL2] at hl2 hr2 ⊢
             have HL2 := Lib.hid hL2
             have HR2 := Lib.hid hr2
             have HB2 := Lib.hid hb2
             have hq3 := hb2.size
             have HM2 := Lib.hid (And.intro hl2 hm2)
             have HOWN2 : Hid (w2.ownsMap Tryd.prog 3 unitElem w1.heap.size m D) := ownsMap_below HOWN.out hb2 hsz
             clear hL2 hr2 hb2 hl2 hm2))
        | (at_mapUpdate
           go_must (
             refine wpList_mapUpdate_own _ rfl _ _ _ 70 rfl 3 79 lawJ Tryd.underlying70 (unitElem (H := Unit)) w1.heap.size m D rfl HOWN2.out (by unfold maxLen; omega) _ _ _ rfl rfl HKEY.out _ [] unitElem_mk ?_
             intro w3 hown3 hgrow3
             have HOWN3 := Lib.hid hown3
             have HG3 := Lib.hid hgrow3
             have hq4 := hgrow3.size
             clear hown3 hgrow3)))
      go_roundw
      case rel =>
        have hbm : Below w.heap.size w w2 := hbl.out.trans (HB2.out.mono hq2)
        have hB3 : B ≤ w.heap.size := HB.out
        refine ⟨m + 1, L2, A2, c2, by omega, by go_num, by first | trivial | rfl, by omega, ⟨HL2.out, HM2.out.1, HM2.out.2, HR2.out.grown HG3.out (by omega) (fun j hj => by cases hj; omega)⟩, ⟨_, HOWN3.out, ?_⟩, hbm.grown HG3.out (by omega) (fun j hj => by cases hj; omega)⟩
        rw [take_snocI l m hml, ← HX.out]
        exact HD.out.put HOWN.out.isMap (HOWN.out.tidy lawJ) x _
      case measure => simp [intOf]; omega
    · obtain rfl : m = N := by omega
      have hkm2 : decide ((m : Int) < (m : Int)) = false := decide_eq_false (by omega)
      have r2 : wr.cell? ⟨gs, 0, none⟩ = some (.map none) := (hbl.out.cell (p := ⟨gs, 0, none⟩) hgw).trans r0
      have hgb : Blk wr gs 70 [.map none] := HGS.out.below hbl.out hgw
      have f2 := hgb.frozen 0
      have HGB := Lib.hid hgb
      obtain ⟨D, hown, hD⟩ := hst.out
      rw [HN.out, List.take_length] at hD
      have HOWN := Lib.hid hown
      have HD := Lib.hid hD
      clear hown hD hgb hst
      have hrd2 : Hid (L = tot.length ∧ L ≤ c' ∧ c' ≤ maxLen ∧ Reads wr B 1 A' L (bs tot)) := by
        have := hrd.out
        rw [Nat.sub_self] at this
        exact this
      clear hrd
      go_wp2
      ((try simp only [Exit.inBlock, Exit.then]); refine bodyPost_ret (results_tmp2 rfl _ _ _) rfl ?_)
      obtain ⟨e1, e2, e3, e4⟩ := hrd2.out
      have hne : gs ≠ w1.heap.size := by omega
      refine ⟨A', c', w1.heap.size, D, (by rw [← e1]; rfl), (by rw [← e1]; exact e2), e3, (by have := e4.setFar r2 (.map (some w1.heap.size)); rw [e1] at this; exact this), HGB.out.set_ 0 _, ?_, HD.out, hq1, grownP_trans (belowP_grown hbl.out _) (grown_set _ _ _ _)⟩
      exact ownsMap_set HOWN.out hne
end Go.Proofs.YtfhaddnacdjpoaaDoor
