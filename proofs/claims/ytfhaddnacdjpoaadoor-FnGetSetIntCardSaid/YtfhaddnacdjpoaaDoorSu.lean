/- The laws FnGetSetInt16, FnGetSetUint64, FnGetSetInt: the walks. PRINTED by wip/gensu.py. -/
import Derived.Test.YtfhaddnacdjpoaaDoorSt
import Derived.Test.YtfhaddnacdjpoaaDoorSr
import Derived.Deep.QuietTactic
import Derived.BigQuiet
namespace Go.Proofs.YtfhaddnacdjpoaaDoor
open Go.RowKit
set_option linter.unusedVariables false

theorem reads_lit2 (w : World) : Reads (w.alloc (.cells #[.int .u8 145, .int .u8 5] 5)) (w.alloc (.cells #[.int .u8 145, .int .u8 5] 5)).heap.size 1 (some ⟨w.heap.size, 0, none⟩) 2 (bs [145, 5]) := by
  have := (Blk.new w 5 [.int .u8 145, .int .u8 5]).reads 0 2 (by simp)
  rw [World.size_alloc]
  exact this
theorem own_cap {w : World} {base n c : Nat} {A : Option Addr} {t : TypeId} {xs : List Value} (h : w.ownsRow base t 5 (.slice A n c) n xs) : n ≤ c ∧ c ≤ maxLen := by
  rcases h.2 with ⟨hv, h0⟩ | ⟨g, cap, cur, hv, _, _, h1, h2, _⟩
  · cases hv
    exact ⟨by omega, by simp [maxLen]⟩
  · cases hv
    exact ⟨h1, h2⟩

theorem getS_atH (w : World) (B c N L : Nat) (A : Option Addr) (hd tot : List Int) (es : Nat → List Int) (l : List Int) (hL : L = (hd ++ (catF es 0 N ++ tot)).length) (hN : N = l.length) (hl : N ≤ 1000) (hf : HeadX N 144 16 [(220, 2), (221, 4)] hd) (he : ∀ i, i < N → IntF (l.getD i 0) (es i)) (hwf : ∀ x ∈ l, -32768 ≤ x ∧ x ≤ 32767) (htot : tot.length ≤ 1000)
    (h : Reads w B 1 A L (bs (hd ++ (catF es 0 N ++ tot)))) (hmc : L ≤ c) (hcm : c ≤ maxLen) (hB : B ≤ w.heap.size) :
    Calls Tryd.prog 6 #[.slice A L c] w fun e w' => ∃ (out : List Int) (A1 : Option Addr) (c1 : Nat) (A2 : Option Addr) (c2 : Nat), SetOf l out ∧ e = .returned (.tuple #[.slice A1 out.length c1, .slice A2 tot.length c2, .bool true]) ∧ w'.ownsRow w.heap.size 27 1 (.slice A1 out.length c1) out.length (out.map (Value.int .i16)) ∧ Reads w' w'.heap.size 1 A2 tot.length (bs tot) ∧ Below w.heap.size w w' := by
  subst hL
  exact getSH w B c N A hd tot es l hN hl hf he hwf htot h hmc hcm hB

theorem getS_atU (w : World) (B c N L : Nat) (A : Option Addr) (hd tot : List Int) (es : Nat → List Int) (l : List Int) (hL : L = (hd ++ (catF es 0 N ++ tot)).length) (hN : N = l.length) (hl : N ≤ 1000) (hf : HeadX N 144 16 [(220, 2), (221, 4)] hd) (he : ∀ i, i < N → IntF (l.getD i 0) (es i)) (hwf : ∀ x ∈ l, 0 ≤ x ∧ x ≤ 18446744073709551615) (htot : tot.length ≤ 1000)
    (h : Reads w B 1 A L (bs (hd ++ (catF es 0 N ++ tot)))) (hmc : L ≤ c) (hcm : c ≤ maxLen) (hB : B ≤ w.heap.size) :
    Calls Tryd.prog 11 #[.slice A L c] w fun e w' => ∃ (out : List Int) (A1 : Option Addr) (c1 : Nat) (A2 : Option Addr) (c2 : Nat), SetOf l out ∧ e = .returned (.tuple #[.slice A1 out.length c1, .slice A2 tot.length c2, .bool true]) ∧ w'.ownsRow w.heap.size 23 1 (.slice A1 out.length c1) out.length (out.map (Value.int .u64)) ∧ Reads w' w'.heap.size 1 A2 tot.length (bs tot) ∧ Below w.heap.size w w' := by
  subst hL
  exact getSU w B c N A hd tot es l hN hl hf he hwf htot h hmc hcm hB

theorem getS_atJ (w : World) (B c N L : Nat) (A : Option Addr) (hd tot : List Int) (es : Nat → List Int) (l : List Int) (hL : L = (hd ++ (catF es 0 N ++ tot)).length) (hN : N = l.length) (hl : N ≤ 1000) (hf : HeadX N 144 16 [(220, 2), (221, 4)] hd) (he : ∀ i, i < N → IntF (l.getD i 0) (es i)) (hwf : ∀ x ∈ l, -9223372036854775808 ≤ x ∧ x ≤ 9223372036854775807) (htot : tot.length ≤ 1000)
    (h : Reads w B 1 A L (bs (hd ++ (catF es 0 N ++ tot)))) (hmc : L ≤ c) (hcm : c ≤ maxLen) (hB : B ≤ w.heap.size) :
    Calls Tryd.prog 14 #[.slice A L c] w fun e w' => ∃ (out : List Int) (A1 : Option Addr) (c1 : Nat) (A2 : Option Addr) (c2 : Nat), SetOf l out ∧ e = .returned (.tuple #[.slice A1 out.length c1, .slice A2 tot.length c2, .bool true]) ∧ w'.ownsRow w.heap.size 2 1 (.slice A1 out.length c1) out.length (out.map (Value.int .i64)) ∧ Reads w' w'.heap.size 1 A2 tot.length (bs tot) ∧ Below w.heap.size w w' := by
  subst hL
  exact getSJ w B c N A hd tot es l hN hl hf he hwf htot h hmc hcm hB
set_option maxHeartbeats 2000000 in
set_option maxRecDepth 100000 in
theorem sameItH (w : World) (A A2 : Option Addr) (c c2 : Nat) (l : List Int) (h : Reads w w.heap.size 1 A l.length (l.map (Value.int .i16))) (h2 : Reads w w.heap.size 1 A2 l.length (l.map (Value.int .i16))) (hl : l.length ≤ 100) :
    Calls Tryd.prog 8 #[.slice A l.length c, .slice A2 l.length c2] w fun e w' => e = .returned (.bool true) ∧ Below w.heap.size w w' := by
  have H := Lib.hid h
  have H2 := Lib.hid h2
  clear h h2
  go_enter Tryd.func8, Tryd.ntmps8
  go_wp2
  go_loopw [13] (fun i wr => ∃ k : Nat, k ≤ l.length ∧ i = .int .i64 k ∧ Hid (Below w.heap.size w wr)) (fun i _ => l.length - (intOf i).toNat)
  case atStart => exact ⟨0, Nat.zero_le _, rfl, Below.refl _ _⟩
  case round =>
    obtain ⟨k, hk, rfl, hrest⟩ := hrel
    by_cases hlt : k < l.length
    · obtain ⟨ad, u, hA, hb, hu, hc⟩ := H.out.at_ hlt
      obtain ⟨ad2, u2, hA2, hb2, hu2, hc2⟩ := H2.out.at_ hlt
      have hv : u = Value.int .i16 l[k] := by
        have := hu.symm.trans (show (l.map (Value.int .i16))[k]? = some (Value.int .i16 l[k]) by rw [List.getElem?_map, List.getElem?_eq_getElem hlt]; rfl)
        injection this
      have hv2 : u2 = Value.int .i16 l[k] := by
        have := hu2.symm.trans (show (l.map (Value.int .i16))[k]? = some (Value.int .i16 l[k]) by rw [List.getElem?_map, List.getElem?_eq_getElem hlt]; rfl)
        injection this
      subst hA hA2 hv hv2
      generalize l[k] = x at *
      have q1 : wr.cell? (ad.add k) = some (Value.int .i16 x) := (hrest.out.cell (by rw [block_of_add]; exact hb)).trans hc
      have q2 : wr.cell? (ad2.add k) = some (Value.int .i16 x) := (hrest.out.cell (by rw [block_of_add]; exact hb2)).trans hc2
      have hk0 : (0 : Int) ≤ (k : Int) := by omega
      have hk1 : (k : Int) < (l.length : Int) := by omega
      clear hu hu2 hc hc2
      go_wp2
      go_quiet (fail)
      go_wp2
      go_roundw
      case rel => exact ⟨k + 1, by omega, by go_num, below_drewN hrest.out _⟩
      case measure => simp [intOf]; omega
    · obtain rfl : k = l.length := by omega
      go_wp2
      go_ret
      exact ⟨rfl, hrest.out⟩


theorem awakeH (W : World) (A : Option Addr) (c : Nat) (h : Reads W W.heap.size 1 A 2 (bs [145, 5])) (hc : 2 ≤ c) (hm : c ≤ maxLen) :
    Calls Tryd.prog 6 #[.slice A 2 c] W fun e w' => ∃ g1 c1 A2 c2, e = .returned (.tuple #[.slice (some ⟨g1, 0, none⟩) 1 c1, .slice A2 0 c2, .bool true]) ∧ w'.cell? ⟨g1, 0, none⟩ = some (.int .i16 5) ∧ Below W.heap.size W w' := by
  refine (getSH W W.heap.size c 1 A [145] [] (fun _ => [5]) [5] rfl (by omega) (.inl ⟨by decide, by decide, rfl⟩) (fun i hi => ?_) (by intro x hx; rw [List.mem_singleton] at hx; omega) (by simp) h hc hm (Nat.le_refl _)).mono ?_
  · obtain rfl : i = 0 := by omega
    exact .inl ⟨by decide, by decide, rfl⟩
  · rintro e w' ⟨out, A1, c1, A2, c2, hso, rfl, hown, _, hb⟩
    obtain rfl : out = [5] := hso.unique ⟨List.pairwise_singleton _ _, fun _ => Iff.rfl, Nat.le_refl _⟩
    obtain ⟨g, c', hv, _, _, _⟩ := own_some hown (by decide)
    have hr := Reads.of_own hown
    cases hv
    obtain ⟨ad, had, _, hc⟩ := hr.2 (by decide)
    cases had
    exact ⟨g, c1, A2, c2, rfl, hc 0 _ rfl, hb⟩

set_option maxHeartbeats 8000000 in
set_option maxRecDepth 100000 in
theorem walkH (w : World) (A Al : Option Addr) (c cl : Nat) (st : Int) (la l : List Int) (h : Reads w w.heap.size 1 A la.length (bs la)) (hr : Reads w w.heap.size 1 Al l.length (l.map (Value.int .i16))) (hwf : ∀ x ∈ l, -32768 ≤ x ∧ x ≤ 32767) :
    Calls Tryd.prog 3 #[.slice Al l.length cl, .int .u64 st, .slice A la.length c] w fun e w' => e = .returned (.bool true) ∧ Below w.heap.size w w' := by
  have H := Lib.hid h
  have HL := Lib.hid hr
  have HWF := Lib.hid hwf
  clear h hr hwf
  obtain ⟨N, hNl⟩ : ∃ N, N = l.length := ⟨_, rfl⟩
  rw [← hNl] at HL ⊢
  have HNL := Lib.hid hNl
  clear hNl
  obtain ⟨M, hMl⟩ : ∃ M, M = la.length := ⟨_, rfl⟩
  rw [← hMl] at H ⊢
  have HML := Lib.hid hMl
  clear hMl
  by_cases hb1 : N ≤ 2147483647
  · have d1 : decide ((2147483647 : Int) < (N : Int)) = false := decide_eq_false (by omega)
    by_cases hb2 : M ≤ 2147483647
    · have d2 : decide ((2147483647 : Int) < (M : Int)) = false := decide_eq_false (by omega)
      by_cases h100 : N ≤ 100
      · have d3 : decide ((100 : Int) < (N : Int)) = false := decide_eq_false (by omega)
        by_cases hm100 : M ≤ 100
        · have d4 : decide ((100 : Int) < (M : Int)) = false := decide_eq_false (by omega)
          obtain ⟨i0, hi0, hz0, hz1, hz2⟩ := info_parts infoPackS
          obtain ⟨i1, hi1, hy0, hy1, hy2⟩ := info_parts infoU8
          go_enter Tryd.func3, Tryd.ntmps3
          go_wp2_with (first
            | (go_at_call 6
               go_must (
                 (refine (awakeH _ _ 2 (reads_lit2 w) (by omega) (by decide)).mono ?_)
                 rintro e w1 ⟨g1, c1, A1, c1', rfl, hc1, hbel1⟩
                 have HBEL1 : Hid (Below w.heap.size w w1) := ((Below.refl _ w).alloc (Nat.le_refl _) _).trans (hbel1.mono (by simp))
                 clear hbel1)))
          go_loopw [55] (fun i wr => ∃ (k : Nat) (A' : Option Addr) (c' : Nat), k ≤ N ∧ i = .int .i64 (k : Nat) ∧ w1.heap.size + 1 ≤ wr.heap.size ∧ Hid (Blk wr w1.heap.size 30 [.int .i64 8, .int .u64 0, .string ⟨#[]⟩, .int .i64 0, .slice A' k c'] ∧ wr.ownsRow (w1.heap.size + 1) 30 5 (.slice A' k c') k ((l.take k).flatMap fun x => n5 2 (IntKind.u64.wrap x)) ∧ Below w1.heap.size w1 wr)) (fun i _ => N - (intOf i).toNat)
          case atStart => exact ⟨0, none, 0, Nat.zero_le _, rfl, by simp, Blk.new _ _ [_, _, _, _, _], World.ownsRow_nil _ _ _ _, (Below.refl _ _).alloc (Nat.le_refl _) _⟩
          case round =>
            obtain ⟨k, A', c', hk, rfl, hsz, hst⟩ := hrel
            have hq1 := HBEL1.out.size
            by_cases hlt : k < N
            · have dk : decide ((k : Int) < (N : Int)) = true := decide_eq_true (by omega)
              obtain ⟨ad, hA, hadB, hkl, hcell0⟩ := HL.out.list hlt
              subst hA
              have hcell : wr.cell? (ad.add k) = some (.int .i16 (l.getD k 0)) := ((HBEL1.out.trans (hst.out.2.2.mono hq1)).cell (by rw [block_of_add]; exact hadB)).trans hcell0
              obtain ⟨x, hX⟩ : ∃ x, x = l.getD k 0 := ⟨_, rfl⟩
              rw [← hX] at hcell
              have hsn := flat_snocS (fun x => n5 2 (IntKind.u64.wrap x)) l k hkl
              rw [← hX] at hsn
              have hx := HWF.out x (by rw [hX]; exact getD_memS l k hkl)
              have hw64 : IntKind.i64.wrap x = x := by rw [IntKind.wrap_i64]; omega
              obtain ⟨V, hV⟩ : ∃ V, V = IntKind.u64.wrap x := ⟨_, rfl⟩
              have hV' : IntKind.u64.wrap x = V := hV.symm
              have HV := Lib.hid hV'
              clear hV
              have HSN := Lib.hid hsn
              have HX2 := Lib.hid hx
              have r4 := hst.out.1.cell 4
              simp only [List.getElem?_cons_zero, List.getElem?_cons_succ] at r4
              clear hcell0 hsn hX hx
              go_wp2_with (
                (at_builtin)
                go_must (
                  (refine wpList_append_any _ rfl (.tmp 60) (.tmp 65) 28 rfl (w1.heap.size + 1) 30 i0 _ 5 64 Tryd.underlying28 hi0 hz0 hz1 hz2 rfl (by omega) (.slice A' k c') k _ rfl (hst.out.2.1.alloc _) (wr.heap.size + 1) _ 1 1 (n5 2 V) rfl (reads_fiveS _ _ _ _) (n5_one _ _) (by simp only [maxLen]; omega) (by omega) (by simp; omega) ?_)
                  intro v1 w1' hown1 hg1 hat1
                  obtain ⟨A1', c1', rfl⟩ := own_formS hown1
                  have hne1 : some w1.heap.size ≠ (Value.slice A' k c').ownBlock := fun e => by have := (hst.out.2.1.lt w1.heap.size e.symm).1; omega
                  have hbk : Blk w1' w1.heap.size 30 [.int .i64 8, .int .u64 0, .string ⟨#[]⟩, .int .i64 0, .slice A' k c'] := (hst.out.1.alloc _).grown hg1 hne1
                  have r4' := hbk.cell 4
                  simp only [List.getElem?_cons_zero, List.getElem?_cons_succ] at r4'
                  have f4' := hbk.frozen 4
                  have hq5 := hg1.size
                  simp only [World.size_alloc] at hq5
                  have HBK := Lib.hid hbk
                  have HO1 := Lib.hid hown1
                  have HG1 := Lib.hid hg1
                  clear hown1 hg1 hat1 hbk hne1))
              go_roundw
              case rel =>
                refine ⟨k + 1, A1', c1', by omega, by go_num, by simp; omega, HBK.out.set_ 4 _, ?_, ?_⟩
                · rw [HSN.out]
                  have hv : IntKind.u64.wrap x = V := HV.out
                  rw [hv]
                  exact own_setS HO1.out (fun e => by have := (HO1.out.lt w1.heap.size e.symm).1; omega)
                · exact ((hst.out.2.2.alloc (by omega) _).grown HG1.out (by simp; omega) (fun j hj => by have := (hst.out.2.1.lt j hj).1; omega)).setCell (Nat.le_refl _) _
              case measure => simp [intOf]; omega
            · obtain rfl : k = N := by omega
              have dk : decide ((k : Int) < (k : Int)) = false := decide_eq_false (by omega)
              have hbr : Below w.heap.size w wr := HBEL1.out.trans (hst.out.2.2.mono hq1)
              have hown := hst.out.2.1
              rw [HNL.out, List.take_length, ← HNL.out] at hown
              have hkc := own_cap hown
              have hkb : KRow wr A' k (l.flatMap fun x => n5 2 (IntKind.u64.wrap x)) := KRow.of_own hown
              have hr2 := hst.out.1
              have r0 := hr2.cell 0
              have r1 := hr2.cell 1
              have r2 := hr2.cell 2
              have r3 := hr2.cell 3
              have r4 := hr2.cell 4
              simp only [List.getElem?_cons_zero, List.getElem?_cons_succ] at r0 r1 r2 r3 r4
              have hpa := putArr wr.heap.size (wr.alloc (.cells #[.int .u64 st, .bool false] 34)) wr.heap.size st 2 false k c' A' (fun x => IntKind.u64.wrap x) l HNL.out h100 (by simp) (Nat.le_refl _) hkc.1 hkc.2 (Blk.new _ _ [_, _]) (fun h0 => by
                obtain ⟨g, e1, e2, e3⟩ := hkb h0
                exact ⟨g, e1, e2, fun i u hu => (World.cell?_alloc_lt wr _ ⟨g, i, none⟩ e2).trans (e3 i u hu)⟩) (fun x hx => putsI_two wr.heap.size false x (by have := HWF.out x hx; omega) (by have := HWF.out x hx; omega))
              have HPA := Lib.hid hpa
              have HBR := Lib.hid hbr
              have hq := hbr.size
              clear hbr hown hkb hr2 hpa hst
              go_wp2_with (first
                | (go_at_call 7
                   go_must (
                     (refine HPA.out.mono ?_)
                     rintro e w5 ⟨enc, A5, c5, st5, rfl, hkf, hown5, _, hg5⟩
                     obtain ⟨hd, es, hhd, henc, hes⟩ := hkf
                     rw [catN_catF] at henc
                     have hcl := catF_len es k 0 (fun i _ hi => by have := intF_len (hes i (by omega)); omega)
                     have hhl := (headX_len hhd (by simp)).1
                     have hh5 := (headX_len hhd (by simp)).2
                     obtain ⟨E5, hE5⟩ : ∃ E5, E5 = enc.length := ⟨_, rfl⟩
                     rw [← hE5] at hown5 ⊢
                     have he1 : 0 < E5 := by rw [hE5, henc, List.length_append]; omega
                     have he2 : E5 ≤ 1000 := by rw [hE5, henc, List.length_append]; omega
                     have hq5 := hg5.size
                     simp only [World.size_alloc] at hq5 hown5
                     have HBEL5 : Hid (Below w.heap.size w w5) := (HBR.out.alloc hq _).grown hg5 (by simp; omega) (fun j hj => by cases hj; exact hq)
                     have HO5 := Lib.hid hown5
                     have HENC := Lib.hid henc
                     have HE5 := Lib.hid hE5
                     have HHD := Lib.hid hhd
                     have HES := Lib.hid hes
                     clear hown5 hg5 henc hE5 hhd hes hcl hhl hh5))
                | (at_builtin
                   go_must (
                     (refine wpList_append_any _ rfl (.tmp 74) (.tmp 75) 24 rfl (wr.heap.size + 1) 5 i1 _ 1 1 Tryd.underlying24 hi1 hy0 hy1 hy2 rfl (by omega) (.slice A5 E5 c5) E5 _ rfl HO5.out w5.heap.size A M c (bs la) rfl ((H.out.below HBEL5.out).more HBEL5.out.size) (bs_one la) (by simp only [maxLen]; omega) (by omega) hq5 ?_)
                     intro v6 w6 hown6 hg6 hat6
                     obtain ⟨g6, c6, rfl, hg6b, hn6, hm6⟩ := own_some hown6 (by omega)
                     have hr6 := Reads.of_own hown6
                     obtain ⟨L6, hL6⟩ : ∃ L6, L6 = E5 + M := ⟨_, rfl⟩
                     rw [← hL6] at hn6 hr6 ⊢
                     have hq6 := hg6.size
                     have HBEL6 : Hid (Below w.heap.size w w6) := HBEL5.out.grown hg6 (by omega) (fun j hj => by have := (HO5.out.lt j hj).1; omega)
                     have HR6 := Lib.hid hr6
                     have HL6 := Lib.hid hL6
                     have HN6 := Lib.hid (And.intro hn6 hm6)
                     clear hown6 hg6 hat6 hr6 hL6 hn6 hm6))
                | (go_at_call 6
                   go_must (
                     have hrr : Hid (L6 = (hd ++ (catF es 0 k ++ la)).length ∧ Reads w6 w6.heap.size 1 (some ⟨g6, 0, none⟩) L6 (bs (hd ++ (catF es 0 k ++ la)))) := by
                       constructor
                       · rw [HL6.out, HE5.out, HENC.out, HML.out]; simp only [List.length_append]; omega
                       · have := HR6.out
                         rw [← bs_append, HENC.out, List.append_assoc] at this
                         exact this
                     (refine (getS_atH w6 w6.heap.size c6 k L6 (some ⟨g6, 0, none⟩) hd la es l hrr.out.1 HNL.out (by omega) HHD.out HES.out HWF.out (by rw [← HML.out]; omega) hrr.out.2 HN6.out.1 HN6.out.2 (Nat.le_refl _)).mono ?_)
                     rintro e w7 ⟨out, A7, c7, A8, c8, hso, rfl, hown7, hr7, hbel7⟩
                     rw [← HML.out] at hr7 ⊢
                     obtain ⟨n7, hn7⟩ : ∃ n7, n7 = out.length := ⟨_, rfl⟩
                     rw [← hn7] at hown7 ⊢
                     have hn72 : n7 ≤ k := by have := hso.2.2; have := HNL.out; omega
                     have hq7 := hbel7.size
                     have HBEL7 : Hid (Below w.heap.size w w7) := HBEL6.out.trans (hbel7.mono (by omega))
                     have HR7 : Hid (Reads w7 w7.heap.size 1 A7 n7 (out.map (Value.int .i16))) := Reads.of_own hown7
                     have HR8 := Lib.hid hr7
                     have HSO := Lib.hid hso
                     have HN7 := Lib.hid hn7
                     clear hrr hso hown7 hr7 hbel7 hn7))
                | (go_at_call 9
                   go_must (
                     (refine (inSetH w7 Al cl k l HNL.out ((HL.out.below HBEL7.out).more HBEL7.out.size) (by omega)).mono ?_)
                     rintro e w8 ⟨out9, g9, c9, hso9, rfl, hown9, hbel9⟩
                     obtain rfl : out9 = out := hso9.unique HSO.out
                     rw [← HN7.out] at hown9 ⊢
                     have hq8 := hbel9.size
                     have HBEL8 : Hid (Below w.heap.size w w8) := HBEL7.out.trans (hbel9.mono (by omega))
                     have HR9 : Hid (Reads w8 w8.heap.size 1 (some ⟨g9, 0, none⟩) n7 (out9.map (Value.int .i16))) := Reads.of_own hown9
                     have HR78 : Hid (Reads w8 w8.heap.size 1 A7 n7 (out9.map (Value.int .i16))) := (HR7.out.below hbel9).more hq8
                     have HR88 : Hid (Reads w8 w8.heap.size 1 A8 M (bs la)) := (HR8.out.below hbel9).more hq8
                     clear hso9 hown9 hbel9))
                | (go_at_call 8
                   go_must (
                     (refine (by have hx := sameItH w8 A7 (some ⟨g9, 0, none⟩) c7 c9 out9 (by rw [← HN7.out]; exact HR78.out) (by rw [← HN7.out]; exact HR9.out) (by rw [← HN7.out]; omega); rw [← HN7.out] at hx; exact hx : Calls Tryd.prog 8 #[.slice A7 n7 c7, .slice (some ⟨g9, 0, none⟩) n7 c9] w8 fun e w' => e = .returned (.bool true) ∧ Below w8.heap.size w8 w').mono ?_)
                     rintro e w9 ⟨rfl, hbel9⟩
                     have hq9 := hbel9.size
                     have HBEL9 : Hid (Below w.heap.size w w9) := HBEL8.out.trans (hbel9.mono (by omega))
                     have HR89 : Hid (Reads w9 w9.heap.size 1 A8 M (bs la)) := (HR88.out.below hbel9).more hq9
                     clear hbel9))
                | (go_at_call 10
                   go_must (
                     (refine (by have hx := left_calls w9 A8 A c8 c la (by rw [← HML.out]; exact HR89.out) (by rw [← HML.out]; exact (H.out.below HBEL9.out).more HBEL9.out.size); rw [← HML.out] at hx; exact hx : Calls Tryd.prog 10 #[.slice A8 M c8, .slice A M c] w9 fun e w' => e = .returned (.bool true) ∧ Below w9.heap.size w9 w').mono ?_)
                     rintro e w10 ⟨rfl, hbel10⟩
                     have HBEL10 : Hid (Below w.heap.size w w10) := HBEL9.out.trans (hbel10.mono HBEL9.out.size)
                     clear hbel10)))
              go_ret
              exact ⟨rfl, HBEL10.out⟩
        · have d4 : decide ((100 : Int) < (M : Int)) = true := decide_eq_true (by omega)
          go_enter Tryd.func3, Tryd.ntmps3
          go_wp2_with (first
            | (go_at_call 6
               go_must (
                 (refine (awakeH _ _ 2 (reads_lit2 w) (by omega) (by decide)).mono ?_)
                 rintro e w1 ⟨g1, c1, A1, c1', rfl, hc1, hbel1⟩
                 have HBEL1 : Hid (Below w.heap.size w w1) := ((Below.refl _ w).alloc (Nat.le_refl _) _).trans (hbel1.mono (by simp))
                 clear hbel1)))
          go_ret
          exact ⟨rfl, HBEL1.out⟩
      · have d3 : decide ((100 : Int) < (N : Int)) = true := decide_eq_true (by omega)
        go_enter Tryd.func3, Tryd.ntmps3
        go_wp2_with (first
          | (go_at_call 6
             go_must (
               (refine (awakeH _ _ 2 (reads_lit2 w) (by omega) (by decide)).mono ?_)
               rintro e w1 ⟨g1, c1, A1, c1', rfl, hc1, hbel1⟩
               have HBEL1 : Hid (Below w.heap.size w w1) := ((Below.refl _ w).alloc (Nat.le_refl _) _).trans (hbel1.mono (by simp))
               clear hbel1)))
        go_ret
        exact ⟨rfl, HBEL1.out⟩
    · have d2 : decide ((2147483647 : Int) < (M : Int)) = true := decide_eq_true (by omega)
      go_enter Tryd.func3, Tryd.ntmps3
      go_wp2
      go_ret
      exact ⟨rfl, Below.refl _ _⟩
  · have d1 : decide ((2147483647 : Int) < (N : Int)) = true := decide_eq_true (by omega)
    go_enter Tryd.func3, Tryd.ntmps3
    go_wp2
    go_ret
    exact ⟨rfl, Below.refl _ _⟩
set_option maxHeartbeats 2000000 in
set_option maxRecDepth 100000 in
theorem sameItU (w : World) (A A2 : Option Addr) (c c2 : Nat) (l : List Int) (h : Reads w w.heap.size 1 A l.length (l.map (Value.int .u64))) (h2 : Reads w w.heap.size 1 A2 l.length (l.map (Value.int .u64))) (hl : l.length ≤ 100) :
    Calls Tryd.prog 12 #[.slice A l.length c, .slice A2 l.length c2] w fun e w' => e = .returned (.bool true) ∧ Below w.heap.size w w' := by
  have H := Lib.hid h
  have H2 := Lib.hid h2
  clear h h2
  go_enter Tryd.func12, Tryd.ntmps12
  go_wp2
  go_loopw [13] (fun i wr => ∃ k : Nat, k ≤ l.length ∧ i = .int .i64 k ∧ Hid (Below w.heap.size w wr)) (fun i _ => l.length - (intOf i).toNat)
  case atStart => exact ⟨0, Nat.zero_le _, rfl, Below.refl _ _⟩
  case round =>
    obtain ⟨k, hk, rfl, hrest⟩ := hrel
    by_cases hlt : k < l.length
    · obtain ⟨ad, u, hA, hb, hu, hc⟩ := H.out.at_ hlt
      obtain ⟨ad2, u2, hA2, hb2, hu2, hc2⟩ := H2.out.at_ hlt
      have hv : u = Value.int .u64 l[k] := by
        have := hu.symm.trans (show (l.map (Value.int .u64))[k]? = some (Value.int .u64 l[k]) by rw [List.getElem?_map, List.getElem?_eq_getElem hlt]; rfl)
        injection this
      have hv2 : u2 = Value.int .u64 l[k] := by
        have := hu2.symm.trans (show (l.map (Value.int .u64))[k]? = some (Value.int .u64 l[k]) by rw [List.getElem?_map, List.getElem?_eq_getElem hlt]; rfl)
        injection this
      subst hA hA2 hv hv2
      generalize l[k] = x at *
      have q1 : wr.cell? (ad.add k) = some (Value.int .u64 x) := (hrest.out.cell (by rw [block_of_add]; exact hb)).trans hc
      have q2 : wr.cell? (ad2.add k) = some (Value.int .u64 x) := (hrest.out.cell (by rw [block_of_add]; exact hb2)).trans hc2
      have hk0 : (0 : Int) ≤ (k : Int) := by omega
      have hk1 : (k : Int) < (l.length : Int) := by omega
      clear hu hu2 hc hc2
      go_wp2
      go_quiet (fail)
      go_wp2
      go_roundw
      case rel => exact ⟨k + 1, by omega, by go_num, below_drewN hrest.out _⟩
      case measure => simp [intOf]; omega
    · obtain rfl : k = l.length := by omega
      go_wp2
      go_ret
      exact ⟨rfl, hrest.out⟩


theorem awakeU (W : World) (A : Option Addr) (c : Nat) (h : Reads W W.heap.size 1 A 2 (bs [145, 5])) (hc : 2 ≤ c) (hm : c ≤ maxLen) :
    Calls Tryd.prog 11 #[.slice A 2 c] W fun e w' => ∃ g1 c1 A2 c2, e = .returned (.tuple #[.slice (some ⟨g1, 0, none⟩) 1 c1, .slice A2 0 c2, .bool true]) ∧ w'.cell? ⟨g1, 0, none⟩ = some (.int .u64 5) ∧ Below W.heap.size W w' := by
  refine (getSU W W.heap.size c 1 A [145] [] (fun _ => [5]) [5] rfl (by omega) (.inl ⟨by decide, by decide, rfl⟩) (fun i hi => ?_) (by intro x hx; rw [List.mem_singleton] at hx; omega) (by simp) h hc hm (Nat.le_refl _)).mono ?_
  · obtain rfl : i = 0 := by omega
    exact .inl ⟨by decide, by decide, rfl⟩
  · rintro e w' ⟨out, A1, c1, A2, c2, hso, rfl, hown, _, hb⟩
    obtain rfl : out = [5] := hso.unique ⟨List.pairwise_singleton _ _, fun _ => Iff.rfl, Nat.le_refl _⟩
    obtain ⟨g, c', hv, _, _, _⟩ := own_some hown (by decide)
    have hr := Reads.of_own hown
    cases hv
    obtain ⟨ad, had, _, hc⟩ := hr.2 (by decide)
    cases had
    exact ⟨g, c1, A2, c2, rfl, hc 0 _ rfl, hb⟩

set_option maxHeartbeats 8000000 in
set_option maxRecDepth 100000 in
theorem walkU (w : World) (A Al : Option Addr) (c cl : Nat) (st : Int) (la l : List Int) (h : Reads w w.heap.size 1 A la.length (bs la)) (hr : Reads w w.heap.size 1 Al l.length (l.map (Value.int .u64))) (hwf : ∀ x ∈ l, 0 ≤ x ∧ x ≤ 18446744073709551615) :
    Calls Tryd.prog 4 #[.slice Al l.length cl, .int .u64 st, .slice A la.length c] w fun e w' => e = .returned (.bool true) ∧ Below w.heap.size w w' := by
  have H := Lib.hid h
  have HL := Lib.hid hr
  have HWF := Lib.hid hwf
  clear h hr hwf
  obtain ⟨N, hNl⟩ : ∃ N, N = l.length := ⟨_, rfl⟩
  rw [← hNl] at HL ⊢
  have HNL := Lib.hid hNl
  clear hNl
  obtain ⟨M, hMl⟩ : ∃ M, M = la.length := ⟨_, rfl⟩
  rw [← hMl] at H ⊢
  have HML := Lib.hid hMl
  clear hMl
  by_cases hb1 : N ≤ 2147483647
  · have d1 : decide ((2147483647 : Int) < (N : Int)) = false := decide_eq_false (by omega)
    by_cases hb2 : M ≤ 2147483647
    · have d2 : decide ((2147483647 : Int) < (M : Int)) = false := decide_eq_false (by omega)
      by_cases h100 : N ≤ 100
      · have d3 : decide ((100 : Int) < (N : Int)) = false := decide_eq_false (by omega)
        by_cases hm100 : M ≤ 100
        · have d4 : decide ((100 : Int) < (M : Int)) = false := decide_eq_false (by omega)
          obtain ⟨i0, hi0, hz0, hz1, hz2⟩ := info_parts infoPackS
          obtain ⟨i1, hi1, hy0, hy1, hy2⟩ := info_parts infoU8
          go_enter Tryd.func4, Tryd.ntmps4
          go_wp2_with (first
            | (go_at_call 11
               go_must (
                 (refine (awakeU _ _ 2 (reads_lit2 w) (by omega) (by decide)).mono ?_)
                 rintro e w1 ⟨g1, c1, A1, c1', rfl, hc1, hbel1⟩
                 have HBEL1 : Hid (Below w.heap.size w w1) := ((Below.refl _ w).alloc (Nat.le_refl _) _).trans (hbel1.mono (by simp))
                 clear hbel1)))
          go_loopw [55] (fun i wr => ∃ (k : Nat) (A' : Option Addr) (c' : Nat), k ≤ N ∧ i = .int .i64 (k : Nat) ∧ w1.heap.size + 1 ≤ wr.heap.size ∧ Hid (Blk wr w1.heap.size 30 [.int .i64 8, .int .u64 0, .string ⟨#[]⟩, .int .i64 0, .slice A' k c'] ∧ wr.ownsRow (w1.heap.size + 1) 30 5 (.slice A' k c') k ((l.take k).flatMap fun x => n5 3 (x)) ∧ Below w1.heap.size w1 wr)) (fun i _ => N - (intOf i).toNat)
          case atStart => exact ⟨0, none, 0, Nat.zero_le _, rfl, by simp, Blk.new _ _ [_, _, _, _, _], World.ownsRow_nil _ _ _ _, (Below.refl _ _).alloc (Nat.le_refl _) _⟩
          case round =>
            obtain ⟨k, A', c', hk, rfl, hsz, hst⟩ := hrel
            have hq1 := HBEL1.out.size
            by_cases hlt : k < N
            · have dk : decide ((k : Int) < (N : Int)) = true := decide_eq_true (by omega)
              obtain ⟨ad, hA, hadB, hkl, hcell0⟩ := HL.out.list hlt
              subst hA
              have hcell : wr.cell? (ad.add k) = some (.int .u64 (l.getD k 0)) := ((HBEL1.out.trans (hst.out.2.2.mono hq1)).cell (by rw [block_of_add]; exact hadB)).trans hcell0
              obtain ⟨x, hX⟩ : ∃ x, x = l.getD k 0 := ⟨_, rfl⟩
              rw [← hX] at hcell
              have hsn := flat_snocS (fun x => n5 3 (x)) l k hkl
              rw [← hX] at hsn
              have hx := HWF.out x (by rw [hX]; exact getD_memS l k hkl)
              have HSN := Lib.hid hsn
              have HX2 := Lib.hid hx
              have r4 := hst.out.1.cell 4
              simp only [List.getElem?_cons_zero, List.getElem?_cons_succ] at r4
              clear hcell0 hsn hX hx
              go_wp2_with (
                (at_builtin)
                go_must (
                  (refine wpList_append_any _ rfl (.tmp 60) (.tmp 63) 28 rfl (w1.heap.size + 1) 30 i0 _ 5 64 Tryd.underlying28 hi0 hz0 hz1 hz2 rfl (by omega) (.slice A' k c') k _ rfl (hst.out.2.1.alloc _) (wr.heap.size + 1) _ 1 1 (n5 3 x) rfl (reads_fiveS _ _ _ _) (n5_one _ _) (by simp only [maxLen]; omega) (by omega) (by simp; omega) ?_)
                  intro v1 w1' hown1 hg1 hat1
                  obtain ⟨A1', c1', rfl⟩ := own_formS hown1
                  have hne1 : some w1.heap.size ≠ (Value.slice A' k c').ownBlock := fun e => by have := (hst.out.2.1.lt w1.heap.size e.symm).1; omega
                  have hbk : Blk w1' w1.heap.size 30 [.int .i64 8, .int .u64 0, .string ⟨#[]⟩, .int .i64 0, .slice A' k c'] := (hst.out.1.alloc _).grown hg1 hne1
                  have r4' := hbk.cell 4
                  simp only [List.getElem?_cons_zero, List.getElem?_cons_succ] at r4'
                  have f4' := hbk.frozen 4
                  have hq5 := hg1.size
                  simp only [World.size_alloc] at hq5
                  have HBK := Lib.hid hbk
                  have HO1 := Lib.hid hown1
                  have HG1 := Lib.hid hg1
                  clear hown1 hg1 hat1 hbk hne1))
              go_roundw
              case rel =>
                refine ⟨k + 1, A1', c1', by omega, by go_num, by simp; omega, HBK.out.set_ 4 _, ?_, ?_⟩
                · rw [HSN.out]
                  exact own_setS HO1.out (fun e => by have := (HO1.out.lt w1.heap.size e.symm).1; omega)
                · exact ((hst.out.2.2.alloc (by omega) _).grown HG1.out (by simp; omega) (fun j hj => by have := (hst.out.2.1.lt j hj).1; omega)).setCell (Nat.le_refl _) _
              case measure => simp [intOf]; omega
            · obtain rfl : k = N := by omega
              have dk : decide ((k : Int) < (k : Int)) = false := decide_eq_false (by omega)
              have hbr : Below w.heap.size w wr := HBEL1.out.trans (hst.out.2.2.mono hq1)
              have hown := hst.out.2.1
              rw [HNL.out, List.take_length, ← HNL.out] at hown
              have hkc := own_cap hown
              have hkb : KRow wr A' k (l.flatMap fun x => n5 3 (x)) := KRow.of_own hown
              have hr2 := hst.out.1
              have r0 := hr2.cell 0
              have r1 := hr2.cell 1
              have r2 := hr2.cell 2
              have r3 := hr2.cell 3
              have r4 := hr2.cell 4
              simp only [List.getElem?_cons_zero, List.getElem?_cons_succ] at r0 r1 r2 r3 r4
              have hpa := putArr wr.heap.size (wr.alloc (.cells #[.int .u64 st, .bool false] 34)) wr.heap.size st 3 false k c' A' (fun x => x) l HNL.out h100 (by simp) (Nat.le_refl _) hkc.1 hkc.2 (Blk.new _ _ [_, _]) (fun h0 => by
                obtain ⟨g, e1, e2, e3⟩ := hkb h0
                exact ⟨g, e1, e2, fun i u hu => (World.cell?_alloc_lt wr _ ⟨g, i, none⟩ e2).trans (e3 i u hu)⟩) (fun x hx => putsI_three wr.heap.size false x (by have := HWF.out x hx; omega) (by have := HWF.out x hx; omega))
              have HPA := Lib.hid hpa
              have HBR := Lib.hid hbr
              have hq := hbr.size
              clear hbr hown hkb hr2 hpa hst
              go_wp2_with (first
                | (go_at_call 7
                   go_must (
                     (refine HPA.out.mono ?_)
                     rintro e w5 ⟨enc, A5, c5, st5, rfl, hkf, hown5, _, hg5⟩
                     obtain ⟨hd, es, hhd, henc, hes⟩ := hkf
                     rw [catN_catF] at henc
                     have hcl := catF_len es k 0 (fun i _ hi => by have := intF_len (hes i (by omega)); omega)
                     have hhl := (headX_len hhd (by simp)).1
                     have hh5 := (headX_len hhd (by simp)).2
                     obtain ⟨E5, hE5⟩ : ∃ E5, E5 = enc.length := ⟨_, rfl⟩
                     rw [← hE5] at hown5 ⊢
                     have he1 : 0 < E5 := by rw [hE5, henc, List.length_append]; omega
                     have he2 : E5 ≤ 1000 := by rw [hE5, henc, List.length_append]; omega
                     have hq5 := hg5.size
                     simp only [World.size_alloc] at hq5 hown5
                     have HBEL5 : Hid (Below w.heap.size w w5) := (HBR.out.alloc hq _).grown hg5 (by simp; omega) (fun j hj => by cases hj; exact hq)
                     have HO5 := Lib.hid hown5
                     have HENC := Lib.hid henc
                     have HE5 := Lib.hid hE5
                     have HHD := Lib.hid hhd
                     have HES := Lib.hid hes
                     clear hown5 hg5 henc hE5 hhd hes hcl hhl hh5))
                | (at_builtin
                   go_must (
                     (refine wpList_append_any _ rfl (.tmp 72) (.tmp 73) 24 rfl (wr.heap.size + 1) 5 i1 _ 1 1 Tryd.underlying24 hi1 hy0 hy1 hy2 rfl (by omega) (.slice A5 E5 c5) E5 _ rfl HO5.out w5.heap.size A M c (bs la) rfl ((H.out.below HBEL5.out).more HBEL5.out.size) (bs_one la) (by simp only [maxLen]; omega) (by omega) hq5 ?_)
                     intro v6 w6 hown6 hg6 hat6
                     obtain ⟨g6, c6, rfl, hg6b, hn6, hm6⟩ := own_some hown6 (by omega)
                     have hr6 := Reads.of_own hown6
                     obtain ⟨L6, hL6⟩ : ∃ L6, L6 = E5 + M := ⟨_, rfl⟩
                     rw [← hL6] at hn6 hr6 ⊢
                     have hq6 := hg6.size
                     have HBEL6 : Hid (Below w.heap.size w w6) := HBEL5.out.grown hg6 (by omega) (fun j hj => by have := (HO5.out.lt j hj).1; omega)
                     have HR6 := Lib.hid hr6
                     have HL6 := Lib.hid hL6
                     have HN6 := Lib.hid (And.intro hn6 hm6)
                     clear hown6 hg6 hat6 hr6 hL6 hn6 hm6))
                | (go_at_call 11
                   go_must (
                     have hrr : Hid (L6 = (hd ++ (catF es 0 k ++ la)).length ∧ Reads w6 w6.heap.size 1 (some ⟨g6, 0, none⟩) L6 (bs (hd ++ (catF es 0 k ++ la)))) := by
                       constructor
                       · rw [HL6.out, HE5.out, HENC.out, HML.out]; simp only [List.length_append]; omega
                       · have := HR6.out
                         rw [← bs_append, HENC.out, List.append_assoc] at this
                         exact this
                     (refine (getS_atU w6 w6.heap.size c6 k L6 (some ⟨g6, 0, none⟩) hd la es l hrr.out.1 HNL.out (by omega) HHD.out HES.out HWF.out (by rw [← HML.out]; omega) hrr.out.2 HN6.out.1 HN6.out.2 (Nat.le_refl _)).mono ?_)
                     rintro e w7 ⟨out, A7, c7, A8, c8, hso, rfl, hown7, hr7, hbel7⟩
                     rw [← HML.out] at hr7 ⊢
                     obtain ⟨n7, hn7⟩ : ∃ n7, n7 = out.length := ⟨_, rfl⟩
                     rw [← hn7] at hown7 ⊢
                     have hn72 : n7 ≤ k := by have := hso.2.2; have := HNL.out; omega
                     have hq7 := hbel7.size
                     have HBEL7 : Hid (Below w.heap.size w w7) := HBEL6.out.trans (hbel7.mono (by omega))
                     have HR7 : Hid (Reads w7 w7.heap.size 1 A7 n7 (out.map (Value.int .u64))) := Reads.of_own hown7
                     have HR8 := Lib.hid hr7
                     have HSO := Lib.hid hso
                     have HN7 := Lib.hid hn7
                     clear hrr hso hown7 hr7 hbel7 hn7))
                | (go_at_call 13
                   go_must (
                     (refine (inSetU w7 Al cl k l HNL.out ((HL.out.below HBEL7.out).more HBEL7.out.size) (by omega)).mono ?_)
                     rintro e w8 ⟨out9, g9, c9, hso9, rfl, hown9, hbel9⟩
                     obtain rfl : out9 = out := hso9.unique HSO.out
                     rw [← HN7.out] at hown9 ⊢
                     have hq8 := hbel9.size
                     have HBEL8 : Hid (Below w.heap.size w w8) := HBEL7.out.trans (hbel9.mono (by omega))
                     have HR9 : Hid (Reads w8 w8.heap.size 1 (some ⟨g9, 0, none⟩) n7 (out9.map (Value.int .u64))) := Reads.of_own hown9
                     have HR78 : Hid (Reads w8 w8.heap.size 1 A7 n7 (out9.map (Value.int .u64))) := (HR7.out.below hbel9).more hq8
                     have HR88 : Hid (Reads w8 w8.heap.size 1 A8 M (bs la)) := (HR8.out.below hbel9).more hq8
                     clear hso9 hown9 hbel9))
                | (go_at_call 12
                   go_must (
                     (refine (by have hx := sameItU w8 A7 (some ⟨g9, 0, none⟩) c7 c9 out9 (by rw [← HN7.out]; exact HR78.out) (by rw [← HN7.out]; exact HR9.out) (by rw [← HN7.out]; omega); rw [← HN7.out] at hx; exact hx : Calls Tryd.prog 12 #[.slice A7 n7 c7, .slice (some ⟨g9, 0, none⟩) n7 c9] w8 fun e w' => e = .returned (.bool true) ∧ Below w8.heap.size w8 w').mono ?_)
                     rintro e w9 ⟨rfl, hbel9⟩
                     have hq9 := hbel9.size
                     have HBEL9 : Hid (Below w.heap.size w w9) := HBEL8.out.trans (hbel9.mono (by omega))
                     have HR89 : Hid (Reads w9 w9.heap.size 1 A8 M (bs la)) := (HR88.out.below hbel9).more hq9
                     clear hbel9))
                | (go_at_call 10
                   go_must (
                     (refine (by have hx := left_calls w9 A8 A c8 c la (by rw [← HML.out]; exact HR89.out) (by rw [← HML.out]; exact (H.out.below HBEL9.out).more HBEL9.out.size); rw [← HML.out] at hx; exact hx : Calls Tryd.prog 10 #[.slice A8 M c8, .slice A M c] w9 fun e w' => e = .returned (.bool true) ∧ Below w9.heap.size w9 w').mono ?_)
                     rintro e w10 ⟨rfl, hbel10⟩
                     have HBEL10 : Hid (Below w.heap.size w w10) := HBEL9.out.trans (hbel10.mono HBEL9.out.size)
                     clear hbel10)))
              go_ret
              exact ⟨rfl, HBEL10.out⟩
        · have d4 : decide ((100 : Int) < (M : Int)) = true := decide_eq_true (by omega)
          go_enter Tryd.func4, Tryd.ntmps4
          go_wp2_with (first
            | (go_at_call 11
               go_must (
                 (refine (awakeU _ _ 2 (reads_lit2 w) (by omega) (by decide)).mono ?_)
                 rintro e w1 ⟨g1, c1, A1, c1', rfl, hc1, hbel1⟩
                 have HBEL1 : Hid (Below w.heap.size w w1) := ((Below.refl _ w).alloc (Nat.le_refl _) _).trans (hbel1.mono (by simp))
                 clear hbel1)))
          go_ret
          exact ⟨rfl, HBEL1.out⟩
      · have d3 : decide ((100 : Int) < (N : Int)) = true := decide_eq_true (by omega)
        go_enter Tryd.func4, Tryd.ntmps4
        go_wp2_with (first
          | (go_at_call 11
             go_must (
               (refine (awakeU _ _ 2 (reads_lit2 w) (by omega) (by decide)).mono ?_)
               rintro e w1 ⟨g1, c1, A1, c1', rfl, hc1, hbel1⟩
               have HBEL1 : Hid (Below w.heap.size w w1) := ((Below.refl _ w).alloc (Nat.le_refl _) _).trans (hbel1.mono (by simp))
               clear hbel1)))
        go_ret
        exact ⟨rfl, HBEL1.out⟩
    · have d2 : decide ((2147483647 : Int) < (M : Int)) = true := decide_eq_true (by omega)
      go_enter Tryd.func4, Tryd.ntmps4
      go_wp2
      go_ret
      exact ⟨rfl, Below.refl _ _⟩
  · have d1 : decide ((2147483647 : Int) < (N : Int)) = true := decide_eq_true (by omega)
    go_enter Tryd.func4, Tryd.ntmps4
    go_wp2
    go_ret
    exact ⟨rfl, Below.refl _ _⟩
set_option maxHeartbeats 2000000 in
set_option maxRecDepth 100000 in
theorem sameItJ (w : World) (A A2 : Option Addr) (c c2 : Nat) (l : List Int) (h : Reads w w.heap.size 1 A l.length (l.map (Value.int .i64))) (h2 : Reads w w.heap.size 1 A2 l.length (l.map (Value.int .i64))) (hl : l.length ≤ 100) :
    Calls Tryd.prog 15 #[.slice A l.length c, .slice A2 l.length c2] w fun e w' => e = .returned (.bool true) ∧ Below w.heap.size w w' := by
  have H := Lib.hid h
  have H2 := Lib.hid h2
  clear h h2
  go_enter Tryd.func15, Tryd.ntmps15
  go_wp2
  go_loopw [13] (fun i wr => ∃ k : Nat, k ≤ l.length ∧ i = .int .i64 k ∧ Hid (Below w.heap.size w wr)) (fun i _ => l.length - (intOf i).toNat)
  case atStart => exact ⟨0, Nat.zero_le _, rfl, Below.refl _ _⟩
  case round =>
    obtain ⟨k, hk, rfl, hrest⟩ := hrel
    by_cases hlt : k < l.length
    · obtain ⟨ad, u, hA, hb, hu, hc⟩ := H.out.at_ hlt
      obtain ⟨ad2, u2, hA2, hb2, hu2, hc2⟩ := H2.out.at_ hlt
      have hv : u = Value.int .i64 l[k] := by
        have := hu.symm.trans (show (l.map (Value.int .i64))[k]? = some (Value.int .i64 l[k]) by rw [List.getElem?_map, List.getElem?_eq_getElem hlt]; rfl)
        injection this
      have hv2 : u2 = Value.int .i64 l[k] := by
        have := hu2.symm.trans (show (l.map (Value.int .i64))[k]? = some (Value.int .i64 l[k]) by rw [List.getElem?_map, List.getElem?_eq_getElem hlt]; rfl)
        injection this
      subst hA hA2 hv hv2
      generalize l[k] = x at *
      have q1 : wr.cell? (ad.add k) = some (Value.int .i64 x) := (hrest.out.cell (by rw [block_of_add]; exact hb)).trans hc
      have q2 : wr.cell? (ad2.add k) = some (Value.int .i64 x) := (hrest.out.cell (by rw [block_of_add]; exact hb2)).trans hc2
      have hk0 : (0 : Int) ≤ (k : Int) := by omega
      have hk1 : (k : Int) < (l.length : Int) := by omega
      clear hu hu2 hc hc2
      go_wp2
      go_quiet (fail)
      go_wp2
      go_roundw
      case rel => exact ⟨k + 1, by omega, by go_num, below_drewN hrest.out _⟩
      case measure => simp [intOf]; omega
    · obtain rfl : k = l.length := by omega
      go_wp2
      go_ret
      exact ⟨rfl, hrest.out⟩


theorem awakeJ (W : World) (A : Option Addr) (c : Nat) (h : Reads W W.heap.size 1 A 2 (bs [145, 5])) (hc : 2 ≤ c) (hm : c ≤ maxLen) :
    Calls Tryd.prog 14 #[.slice A 2 c] W fun e w' => ∃ g1 c1 A2 c2, e = .returned (.tuple #[.slice (some ⟨g1, 0, none⟩) 1 c1, .slice A2 0 c2, .bool true]) ∧ w'.cell? ⟨g1, 0, none⟩ = some (.int .i64 5) ∧ Below W.heap.size W w' := by
  refine (getSJ W W.heap.size c 1 A [145] [] (fun _ => [5]) [5] rfl (by omega) (.inl ⟨by decide, by decide, rfl⟩) (fun i hi => ?_) (by intro x hx; rw [List.mem_singleton] at hx; omega) (by simp) h hc hm (Nat.le_refl _)).mono ?_
  · obtain rfl : i = 0 := by omega
    exact .inl ⟨by decide, by decide, rfl⟩
  · rintro e w' ⟨out, A1, c1, A2, c2, hso, rfl, hown, _, hb⟩
    obtain rfl : out = [5] := hso.unique ⟨List.pairwise_singleton _ _, fun _ => Iff.rfl, Nat.le_refl _⟩
    obtain ⟨g, c', hv, _, _, _⟩ := own_some hown (by decide)
    have hr := Reads.of_own hown
    cases hv
    obtain ⟨ad, had, _, hc⟩ := hr.2 (by decide)
    cases had
    exact ⟨g, c1, A2, c2, rfl, hc 0 _ rfl, hb⟩

set_option maxHeartbeats 8000000 in
set_option maxRecDepth 100000 in
theorem walkJ (w : World) (A Al : Option Addr) (c cl : Nat) (st : Int) (la l : List Int) (h : Reads w w.heap.size 1 A la.length (bs la)) (hr : Reads w w.heap.size 1 Al l.length (l.map (Value.int .i64))) (hwf : ∀ x ∈ l, -9223372036854775808 ≤ x ∧ x ≤ 9223372036854775807) :
    Calls Tryd.prog 5 #[.slice Al l.length cl, .int .u64 st, .slice A la.length c] w fun e w' => e = .returned (.bool true) ∧ Below w.heap.size w w' := by
  have H := Lib.hid h
  have HL := Lib.hid hr
  have HWF := Lib.hid hwf
  clear h hr hwf
  obtain ⟨N, hNl⟩ : ∃ N, N = l.length := ⟨_, rfl⟩
  rw [← hNl] at HL ⊢
  have HNL := Lib.hid hNl
  clear hNl
  obtain ⟨M, hMl⟩ : ∃ M, M = la.length := ⟨_, rfl⟩
  rw [← hMl] at H ⊢
  have HML := Lib.hid hMl
  clear hMl
  by_cases hb1 : N ≤ 2147483647
  · have d1 : decide ((2147483647 : Int) < (N : Int)) = false := decide_eq_false (by omega)
    by_cases hb2 : M ≤ 2147483647
    · have d2 : decide ((2147483647 : Int) < (M : Int)) = false := decide_eq_false (by omega)
      by_cases h100 : N ≤ 100
      · have d3 : decide ((100 : Int) < (N : Int)) = false := decide_eq_false (by omega)
        by_cases hm100 : M ≤ 100
        · have d4 : decide ((100 : Int) < (M : Int)) = false := decide_eq_false (by omega)
          obtain ⟨i0, hi0, hz0, hz1, hz2⟩ := info_parts infoPackS
          obtain ⟨i1, hi1, hy0, hy1, hy2⟩ := info_parts infoU8
          go_enter Tryd.func5, Tryd.ntmps5
          go_wp2_with (first
            | (go_at_call 14
               go_must (
                 (refine (awakeJ _ _ 2 (reads_lit2 w) (by omega) (by decide)).mono ?_)
                 rintro e w1 ⟨g1, c1, A1, c1', rfl, hc1, hbel1⟩
                 have HBEL1 : Hid (Below w.heap.size w w1) := ((Below.refl _ w).alloc (Nat.le_refl _) _).trans (hbel1.mono (by simp))
                 clear hbel1)))
          go_loopw [55] (fun i wr => ∃ (k : Nat) (A' : Option Addr) (c' : Nat), k ≤ N ∧ i = .int .i64 (k : Nat) ∧ w1.heap.size + 1 ≤ wr.heap.size ∧ Hid (Blk wr w1.heap.size 30 [.int .i64 8, .int .u64 0, .string ⟨#[]⟩, .int .i64 0, .slice A' k c'] ∧ wr.ownsRow (w1.heap.size + 1) 30 5 (.slice A' k c') k ((l.take k).flatMap fun x => n5 2 (IntKind.u64.wrap x)) ∧ Below w1.heap.size w1 wr)) (fun i _ => N - (intOf i).toNat)
          case atStart => exact ⟨0, none, 0, Nat.zero_le _, rfl, by simp, Blk.new _ _ [_, _, _, _, _], World.ownsRow_nil _ _ _ _, (Below.refl _ _).alloc (Nat.le_refl _) _⟩
          case round =>
            obtain ⟨k, A', c', hk, rfl, hsz, hst⟩ := hrel
            have hq1 := HBEL1.out.size
            by_cases hlt : k < N
            · have dk : decide ((k : Int) < (N : Int)) = true := decide_eq_true (by omega)
              obtain ⟨ad, hA, hadB, hkl, hcell0⟩ := HL.out.list hlt
              subst hA
              have hcell : wr.cell? (ad.add k) = some (.int .i64 (l.getD k 0)) := ((HBEL1.out.trans (hst.out.2.2.mono hq1)).cell (by rw [block_of_add]; exact hadB)).trans hcell0
              obtain ⟨x, hX⟩ : ∃ x, x = l.getD k 0 := ⟨_, rfl⟩
              rw [← hX] at hcell
              have hsn := flat_snocS (fun x => n5 2 (IntKind.u64.wrap x)) l k hkl
              rw [← hX] at hsn
              have hx := HWF.out x (by rw [hX]; exact getD_memS l k hkl)
              obtain ⟨V, hV⟩ : ∃ V, V = IntKind.u64.wrap x := ⟨_, rfl⟩
              have hV' : IntKind.u64.wrap x = V := hV.symm
              have HV := Lib.hid hV'
              clear hV
              have HSN := Lib.hid hsn
              have HX2 := Lib.hid hx
              have r4 := hst.out.1.cell 4
              simp only [List.getElem?_cons_zero, List.getElem?_cons_succ] at r4
              clear hcell0 hsn hX hx
              go_wp2_with (
                (at_builtin)
                go_must (
                  (refine wpList_append_any _ rfl (.tmp 60) (.tmp 64) 28 rfl (w1.heap.size + 1) 30 i0 _ 5 64 Tryd.underlying28 hi0 hz0 hz1 hz2 rfl (by omega) (.slice A' k c') k _ rfl (hst.out.2.1.alloc _) (wr.heap.size + 1) _ 1 1 (n5 2 V) rfl (reads_fiveS _ _ _ _) (n5_one _ _) (by simp only [maxLen]; omega) (by omega) (by simp; omega) ?_)
                  intro v1 w1' hown1 hg1 hat1
                  obtain ⟨A1', c1', rfl⟩ := own_formS hown1
                  have hne1 : some w1.heap.size ≠ (Value.slice A' k c').ownBlock := fun e => by have := (hst.out.2.1.lt w1.heap.size e.symm).1; omega
                  have hbk : Blk w1' w1.heap.size 30 [.int .i64 8, .int .u64 0, .string ⟨#[]⟩, .int .i64 0, .slice A' k c'] := (hst.out.1.alloc _).grown hg1 hne1
                  have r4' := hbk.cell 4
                  simp only [List.getElem?_cons_zero, List.getElem?_cons_succ] at r4'
                  have f4' := hbk.frozen 4
                  have hq5 := hg1.size
                  simp only [World.size_alloc] at hq5
                  have HBK := Lib.hid hbk
                  have HO1 := Lib.hid hown1
                  have HG1 := Lib.hid hg1
                  clear hown1 hg1 hat1 hbk hne1))
              go_roundw
              case rel =>
                refine ⟨k + 1, A1', c1', by omega, by go_num, by simp; omega, HBK.out.set_ 4 _, ?_, ?_⟩
                · rw [HSN.out]
                  have hv : IntKind.u64.wrap x = V := HV.out
                  rw [hv]
                  exact own_setS HO1.out (fun e => by have := (HO1.out.lt w1.heap.size e.symm).1; omega)
                · exact ((hst.out.2.2.alloc (by omega) _).grown HG1.out (by simp; omega) (fun j hj => by have := (hst.out.2.1.lt j hj).1; omega)).setCell (Nat.le_refl _) _
              case measure => simp [intOf]; omega
            · obtain rfl : k = N := by omega
              have dk : decide ((k : Int) < (k : Int)) = false := decide_eq_false (by omega)
              have hbr : Below w.heap.size w wr := HBEL1.out.trans (hst.out.2.2.mono hq1)
              have hown := hst.out.2.1
              rw [HNL.out, List.take_length, ← HNL.out] at hown
              have hkc := own_cap hown
              have hkb : KRow wr A' k (l.flatMap fun x => n5 2 (IntKind.u64.wrap x)) := KRow.of_own hown
              have hr2 := hst.out.1
              have r0 := hr2.cell 0
              have r1 := hr2.cell 1
              have r2 := hr2.cell 2
              have r3 := hr2.cell 3
              have r4 := hr2.cell 4
              simp only [List.getElem?_cons_zero, List.getElem?_cons_succ] at r0 r1 r2 r3 r4
              have hpa := putArr wr.heap.size (wr.alloc (.cells #[.int .u64 st, .bool false] 34)) wr.heap.size st 2 false k c' A' (fun x => IntKind.u64.wrap x) l HNL.out h100 (by simp) (Nat.le_refl _) hkc.1 hkc.2 (Blk.new _ _ [_, _]) (fun h0 => by
                obtain ⟨g, e1, e2, e3⟩ := hkb h0
                exact ⟨g, e1, e2, fun i u hu => (World.cell?_alloc_lt wr _ ⟨g, i, none⟩ e2).trans (e3 i u hu)⟩) (fun x hx => putsI_two wr.heap.size false x (by have := HWF.out x hx; omega) (by have := HWF.out x hx; omega))
              have HPA := Lib.hid hpa
              have HBR := Lib.hid hbr
              have hq := hbr.size
              clear hbr hown hkb hr2 hpa hst
              go_wp2_with (first
                | (go_at_call 7
                   go_must (
                     (refine HPA.out.mono ?_)
                     rintro e w5 ⟨enc, A5, c5, st5, rfl, hkf, hown5, _, hg5⟩
                     obtain ⟨hd, es, hhd, henc, hes⟩ := hkf
                     rw [catN_catF] at henc
                     have hcl := catF_len es k 0 (fun i _ hi => by have := intF_len (hes i (by omega)); omega)
                     have hhl := (headX_len hhd (by simp)).1
                     have hh5 := (headX_len hhd (by simp)).2
                     obtain ⟨E5, hE5⟩ : ∃ E5, E5 = enc.length := ⟨_, rfl⟩
                     rw [← hE5] at hown5 ⊢
                     have he1 : 0 < E5 := by rw [hE5, henc, List.length_append]; omega
                     have he2 : E5 ≤ 1000 := by rw [hE5, henc, List.length_append]; omega
                     have hq5 := hg5.size
                     simp only [World.size_alloc] at hq5 hown5
                     have HBEL5 : Hid (Below w.heap.size w w5) := (HBR.out.alloc hq _).grown hg5 (by simp; omega) (fun j hj => by cases hj; exact hq)
                     have HO5 := Lib.hid hown5
                     have HENC := Lib.hid henc
                     have HE5 := Lib.hid hE5
                     have HHD := Lib.hid hhd
                     have HES := Lib.hid hes
                     clear hown5 hg5 henc hE5 hhd hes hcl hhl hh5))
                | (at_builtin
                   go_must (
                     (refine wpList_append_any _ rfl (.tmp 73) (.tmp 74) 24 rfl (wr.heap.size + 1) 5 i1 _ 1 1 Tryd.underlying24 hi1 hy0 hy1 hy2 rfl (by omega) (.slice A5 E5 c5) E5 _ rfl HO5.out w5.heap.size A M c (bs la) rfl ((H.out.below HBEL5.out).more HBEL5.out.size) (bs_one la) (by simp only [maxLen]; omega) (by omega) hq5 ?_)
                     intro v6 w6 hown6 hg6 hat6
                     obtain ⟨g6, c6, rfl, hg6b, hn6, hm6⟩ := own_some hown6 (by omega)
                     have hr6 := Reads.of_own hown6
                     obtain ⟨L6, hL6⟩ : ∃ L6, L6 = E5 + M := ⟨_, rfl⟩
                     rw [← hL6] at hn6 hr6 ⊢
                     have hq6 := hg6.size
                     have HBEL6 : Hid (Below w.heap.size w w6) := HBEL5.out.grown hg6 (by omega) (fun j hj => by have := (HO5.out.lt j hj).1; omega)
                     have HR6 := Lib.hid hr6
                     have HL6 := Lib.hid hL6
                     have HN6 := Lib.hid (And.intro hn6 hm6)
                     clear hown6 hg6 hat6 hr6 hL6 hn6 hm6))
                | (go_at_call 14
                   go_must (
                     have hrr : Hid (L6 = (hd ++ (catF es 0 k ++ la)).length ∧ Reads w6 w6.heap.size 1 (some ⟨g6, 0, none⟩) L6 (bs (hd ++ (catF es 0 k ++ la)))) := by
                       constructor
                       · rw [HL6.out, HE5.out, HENC.out, HML.out]; simp only [List.length_append]; omega
                       · have := HR6.out
                         rw [← bs_append, HENC.out, List.append_assoc] at this
                         exact this
                     (refine (getS_atJ w6 w6.heap.size c6 k L6 (some ⟨g6, 0, none⟩) hd la es l hrr.out.1 HNL.out (by omega) HHD.out HES.out HWF.out (by rw [← HML.out]; omega) hrr.out.2 HN6.out.1 HN6.out.2 (Nat.le_refl _)).mono ?_)
                     rintro e w7 ⟨out, A7, c7, A8, c8, hso, rfl, hown7, hr7, hbel7⟩
                     rw [← HML.out] at hr7 ⊢
                     obtain ⟨n7, hn7⟩ : ∃ n7, n7 = out.length := ⟨_, rfl⟩
                     rw [← hn7] at hown7 ⊢
                     have hn72 : n7 ≤ k := by have := hso.2.2; have := HNL.out; omega
                     have hq7 := hbel7.size
                     have HBEL7 : Hid (Below w.heap.size w w7) := HBEL6.out.trans (hbel7.mono (by omega))
                     have HR7 : Hid (Reads w7 w7.heap.size 1 A7 n7 (out.map (Value.int .i64))) := Reads.of_own hown7
                     have HR8 := Lib.hid hr7
                     have HSO := Lib.hid hso
                     have HN7 := Lib.hid hn7
                     clear hrr hso hown7 hr7 hbel7 hn7))
                | (go_at_call 16
                   go_must (
                     (refine (inSetL w7 Al cl k l HNL.out ((HL.out.below HBEL7.out).more HBEL7.out.size) (by omega)).mono ?_)
                     rintro e w8 ⟨out9, g9, c9, hso9, rfl, hown9, hbel9⟩
                     obtain rfl : out9 = out := hso9.unique HSO.out
                     rw [← HN7.out] at hown9 ⊢
                     have hq8 := hbel9.size
                     have HBEL8 : Hid (Below w.heap.size w w8) := HBEL7.out.trans (hbel9.mono (by omega))
                     have HR9 : Hid (Reads w8 w8.heap.size 1 (some ⟨g9, 0, none⟩) n7 (out9.map (Value.int .i64))) := Reads.of_own hown9
                     have HR78 : Hid (Reads w8 w8.heap.size 1 A7 n7 (out9.map (Value.int .i64))) := (HR7.out.below hbel9).more hq8
                     have HR88 : Hid (Reads w8 w8.heap.size 1 A8 M (bs la)) := (HR8.out.below hbel9).more hq8
                     clear hso9 hown9 hbel9))
                | (go_at_call 15
                   go_must (
                     (refine (by have hx := sameItJ w8 A7 (some ⟨g9, 0, none⟩) c7 c9 out9 (by rw [← HN7.out]; exact HR78.out) (by rw [← HN7.out]; exact HR9.out) (by rw [← HN7.out]; omega); rw [← HN7.out] at hx; exact hx : Calls Tryd.prog 15 #[.slice A7 n7 c7, .slice (some ⟨g9, 0, none⟩) n7 c9] w8 fun e w' => e = .returned (.bool true) ∧ Below w8.heap.size w8 w').mono ?_)
                     rintro e w9 ⟨rfl, hbel9⟩
                     have hq9 := hbel9.size
                     have HBEL9 : Hid (Below w.heap.size w w9) := HBEL8.out.trans (hbel9.mono (by omega))
                     have HR89 : Hid (Reads w9 w9.heap.size 1 A8 M (bs la)) := (HR88.out.below hbel9).more hq9
                     clear hbel9))
                | (go_at_call 10
                   go_must (
                     (refine (by have hx := left_calls w9 A8 A c8 c la (by rw [← HML.out]; exact HR89.out) (by rw [← HML.out]; exact (H.out.below HBEL9.out).more HBEL9.out.size); rw [← HML.out] at hx; exact hx : Calls Tryd.prog 10 #[.slice A8 M c8, .slice A M c] w9 fun e w' => e = .returned (.bool true) ∧ Below w9.heap.size w9 w').mono ?_)
                     rintro e w10 ⟨rfl, hbel10⟩
                     have HBEL10 : Hid (Below w.heap.size w w10) := HBEL9.out.trans (hbel10.mono HBEL9.out.size)
                     clear hbel10)))
              go_ret
              exact ⟨rfl, HBEL10.out⟩
        · have d4 : decide ((100 : Int) < (M : Int)) = true := decide_eq_true (by omega)
          go_enter Tryd.func5, Tryd.ntmps5
          go_wp2_with (first
            | (go_at_call 14
               go_must (
                 (refine (awakeJ _ _ 2 (reads_lit2 w) (by omega) (by decide)).mono ?_)
                 rintro e w1 ⟨g1, c1, A1, c1', rfl, hc1, hbel1⟩
                 have HBEL1 : Hid (Below w.heap.size w w1) := ((Below.refl _ w).alloc (Nat.le_refl _) _).trans (hbel1.mono (by simp))
                 clear hbel1)))
          go_ret
          exact ⟨rfl, HBEL1.out⟩
      · have d3 : decide ((100 : Int) < (N : Int)) = true := decide_eq_true (by omega)
        go_enter Tryd.func5, Tryd.ntmps5
        go_wp2_with (first
          | (go_at_call 14
             go_must (
               (refine (awakeJ _ _ 2 (reads_lit2 w) (by omega) (by decide)).mono ?_)
               rintro e w1 ⟨g1, c1, A1, c1', rfl, hc1, hbel1⟩
               have HBEL1 : Hid (Below w.heap.size w w1) := ((Below.refl _ w).alloc (Nat.le_refl _) _).trans (hbel1.mono (by simp))
               clear hbel1)))
        go_ret
        exact ⟨rfl, HBEL1.out⟩
    · have d2 : decide ((2147483647 : Int) < (M : Int)) = true := decide_eq_true (by omega)
      go_enter Tryd.func5, Tryd.ntmps5
      go_wp2
      go_ret
      exact ⟨rfl, Below.refl _ _⟩
  · have d1 : decide ((2147483647 : Int) < (N : Int)) = true := decide_eq_true (by omega)
    go_enter Tryd.func5, Tryd.ntmps5
    go_wp2
    go_ret
    exact ⟨rfl, Below.refl _ _⟩
end Go.Proofs.YtfhaddnacdjpoaaDoor
