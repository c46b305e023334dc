/- The laws FnSetOfJSONUint32, FnSetOfJSONInt8: the walks. PRINTED by wip/genjq.py. -/
import Derived.Test.YtikpmeedjdddoaaDoorJo
import Derived.Deep.QuietTactic
import Derived.BigQuiet
namespace Go.Proofs.YtikpmeedjdddoaaDoor
open Go.RowKit
set_option linter.unusedVariables false

theorem infoStr : (Tryd.prog.info? 9).map (fun i => (i.zero, i.size, i.bytes)) = some (some (.string ⟨#[]⟩), 1, 16) := by kernel_rfl
theorem own_belowJ {w w' : World} {base n sz : Nat} {t : TypeId} {v : Value} {xs : List Value} (h : w.ownsRow base t sz v n xs) (hb : Below w.heap.size w w') : w'.ownsRow base t sz v n xs :=
  h.kept (row := none) ⟨hb.os, hb.tape, hb.output, hb.size, fun k hk _ => hb.block k hk⟩ (by cases hv : v.ownBlock <;> simp)
theorem textW (w : World) (x : Int) (h0 : 0 ≤ x) (h1 : x ≤ 4294967295) : Calls Tryd.prog 14 #[.int .u64 x] w fun e w' => e = .returned (.string (strOfNums (itoaL x))) ∧ Below w.heap.size w w' := by
  have h := digitsOf_calls w x.toNat (by omega)
  rw [Int.toNat_of_nonneg h0] at h
  have e : itoaL x = digs x.toNat := by unfold itoaL; rw [if_neg (by omega)]
  rw [e]
  exact h
theorem textY (w : World) (x : Int) (h0 : -128 ≤ x) (h1 : x ≤ 127) : Calls Tryd.prog 18 #[.int .i64 x] w fun e w' => e = .returned (.string (strOfNums (itoaL x))) ∧ Below w.heap.size w w' :=
  signed_calls w x (by omega) (by omega)
set_option maxHeartbeats 2000000 in
set_option maxRecDepth 100000 in
theorem sameItY (w : World) (A A2 : Option Addr) (c c2 : Nat) (l : List Int) (h : Reads w w.heap.size 1 A l.length (l.map (Value.int .i8))) (h2 : Reads w w.heap.size 1 A2 l.length (l.map (Value.int .i8))) (hl : l.length ≤ 100) :
    Calls Tryd.prog 19 #[.slice A l.length c, .slice A2 l.length c2] w fun e w' => e = .returned (.bool true) ∧ Below w.heap.size w w' := by
  have H := Lib.hid h
  have H2 := Lib.hid h2
  clear h h2
  go_enter Tryd.func19, Tryd.ntmps19
  go_wp2
  go_loopw [13] (fun i wr => ∃ k : Nat, k ≤ l.length ∧ i = .int .i64 k ∧ Hid (Below w.heap.size w wr)) (fun i _ => l.length - (intOf i).toNat)
  case atStart => exact ⟨0, Nat.zero_le _, rfl, Below.refl _ _⟩
  case round =>
    obtain ⟨k, hk, rfl, hrest⟩ := hrel
    by_cases hlt : k < l.length
    · obtain ⟨ad, u, hA, hb, hu, hc⟩ := H.out.at_ hlt
      obtain ⟨ad2, u2, hA2, hb2, hu2, hc2⟩ := H2.out.at_ hlt
      have hv : u = Value.int .i8 l[k] := by
        have := hu.symm.trans (show (l.map (Value.int .i8))[k]? = some (Value.int .i8 l[k]) by rw [List.getElem?_map, List.getElem?_eq_getElem hlt]; rfl)
        injection this
      have hv2 : u2 = Value.int .i8 l[k] := by
        have := hu2.symm.trans (show (l.map (Value.int .i8))[k]? = some (Value.int .i8 l[k]) by rw [List.getElem?_map, List.getElem?_eq_getElem hlt]; rfl)
        injection this
      subst hA hA2 hv hv2
      generalize l[k] = x at *
      have q1 : wr.cell? (ad.add k) = some (Value.int .i8 x) := (hrest.out.cell (by rw [block_of_add]; exact hb)).trans hc
      have q2 : wr.cell? (ad2.add k) = some (Value.int .i8 x) := (hrest.out.cell (by rw [block_of_add]; exact hb2)).trans hc2
      have hk0 : (0 : Int) ≤ (k : Int) := by omega
      have hk1 : (k : Int) < (l.length : Int) := by omega
      clear hu hu2 hc hc2
      go_wp2
      go_quiet (fail)
      go_wp2
      go_roundw
      case rel => exact ⟨k + 1, by omega, by go_num, below_drewN hrest.out _⟩
      case measure => simp [intOf]; omega
    · obtain rfl : k = l.length := by omega
      go_wp2
      go_ret
      exact ⟨rfl, hrest.out⟩


theorem awakeY (w : World) :
    Calls Tryd.prog 17 #[.string ⟨#[91, 53, 93]⟩] w fun e w' => ∃ g1 c1, e = .returned (.tuple #[.slice (some ⟨g1, 0, none⟩) 1 c1, .bool true]) ∧ w'.cell? ⟨g1, 0, none⟩ = some (.int .i8 5) ∧ Below w.heap.size w w' := by
  have e1 : (91 :: (jg (itB false) [5] ++ [93]) : List Int) = [91, 53, 93] := by
    have e2 : itoaL 5 = [53] := by
      unfold itoaL
      rw [if_neg (by omega), show Int.toNat 5 = 5 from rfl, digs_small (by omega)]
      rfl
    show (91 :: ((bl false ++ itoaL 5) ++ [93]) : List Int) = _
    rw [e2]
    rfl
  have h := setjY w false [5] [91, 53, 93] e1.symm (by simp) 1 rfl (by omega) (by intro x hx; rw [List.mem_singleton] at hx; omega)
  rw [show strOfNums [91, 53, 93] = ⟨#[91, 53, 93]⟩ from rfl] at h
  refine h.mono ?_
  rintro e w' ⟨out, A1, c1, hso, rfl, hown, hb⟩
  obtain rfl : out = [5] := hso.unique ⟨List.pairwise_singleton _ _, fun _ => Iff.rfl, Nat.le_refl _⟩
  obtain ⟨g, c', hv, _, _, _⟩ := own_some hown (by decide)
  have hr := Reads.of_own hown
  cases hv
  obtain ⟨ad, had, _, hc⟩ := hr.2 (by decide)
  cases had
  exact ⟨g, c1, rfl, hc 0 _ rfl, hb⟩

set_option maxHeartbeats 8000000 in
set_option maxRecDepth 100000 in
theorem walkSY (w : World) (Al : Option Addr) (cl : Nat) (z : Bool) (l : List Int) (hr : Reads w w.heap.size 1 Al l.length (l.map (Value.int .i8))) (hwf : ∀ x ∈ l, -128 ≤ x ∧ x ≤ 127) :
    Calls Tryd.prog 6 #[.slice Al l.length cl, .bool z] w fun e w' => e = .returned (.bool true) ∧ Below w.heap.size w w' := by
  have HL := Lib.hid hr
  have HWF := Lib.hid hwf
  clear hr hwf
  obtain ⟨N, hNl⟩ : ∃ N, N = l.length := ⟨_, rfl⟩
  rw [← hNl] at HL ⊢
  have HNL := Lib.hid hNl
  clear hNl
  by_cases hb1 : N ≤ 2147483647
  · have d1 : decide ((2147483647 : Int) < (N : Int)) = false := decide_eq_false (by omega)
    by_cases h100 : N ≤ 100
    · have d3 : decide ((100 : Int) < (N : Int)) = false := decide_eq_false (by omega)
      obtain ⟨i0, hi0, hz0, hz1, hz2⟩ := info_parts infoStr
      go_enter Tryd.func6, Tryd.ntmps6
      go_wp2_with (
        (go_at_call 17
         go_must (
           (refine (awakeY w).mono ?_)
           rintro e w1 ⟨g1, c1, rfl, hc1, hbel1⟩
           have HBEL1 := Lib.hid hbel1
           clear hbel1)))
      go_loopw [8, 38] (fun d i wr => ∃ (k : Nat) (A' : Option Addr) (c' : Nat), k ≤ N ∧ i = .int .i64 (k : Nat) ∧ d = .slice A' k c' ∧ w1.heap.size ≤ wr.heap.size ∧ Hid (wr.ownsRow w1.heap.size 9 1 (.slice A' k c') k ((l.take k).map fun x => Value.string (strOfNums (itoaL x))) ∧ Below w1.heap.size w1 wr)) (fun _ i _ => N - (intOf i).toNat)
      case atStart => exact ⟨0, none, 0, Nat.zero_le _, rfl, rfl, Nat.le_refl _, World.ownsRow_nil _ _ _ _, Below.refl _ _⟩
      case round =>
        obtain ⟨k, A', c', hk, rfl, rfl, hsz, hst⟩ := hrel
        have hq1 := HBEL1.out.size
        by_cases hlt : k < N
        · have dk : decide ((k : Int) < (N : Int)) = true := decide_eq_true (by omega)
          obtain ⟨ad, hA, hadB, hkl, hcell0⟩ := HL.out.list hlt
          subst hA
          have hcell : wr.cell? (ad.add k) = some (.int .i8 (l.getD k 0)) := ((HBEL1.out.trans (hst.out.2.mono hq1)).cell (by rw [block_of_add]; exact hadB)).trans hcell0
          obtain ⟨x, hX⟩ : ∃ x, x = l.getD k 0 := ⟨_, rfl⟩
          rw [← hX] at hcell
          have hsn : (l.take (k + 1)).map (fun x => Value.string (strOfNums (itoaL x))) = (l.take k).map (fun x => Value.string (strOfNums (itoaL x))) ++ [.string (strOfNums (itoaL x))] := by rw [show l.take (k + 1) = l.take k ++ [l.getD k 0] by rw [List.take_add_one, List.getElem?_eq_getElem hkl, List.getD, List.getElem?_eq_getElem hkl]; rfl, List.map_append, ← hX]; rfl
          have hx := HWF.out x (by rw [hX]; exact getD_memS l k hkl)
          obtain ⟨hx0, hx1⟩ := hx
          have htx := textY wr x hx0 hx1
          have hwr : IntKind.i64.wrap x = x := by rw [IntKind.wrap_i64]; omega
          obtain ⟨s, hs⟩ : ∃ s, s = strOfNums (itoaL x) := ⟨_, rfl⟩
          rw [← hs] at htx hsn
          have HTX := Lib.hid htx
          have HSN := Lib.hid hsn
          clear hcell0 hsn hX htx hs hx0 hx1
          go_wp2_with (first
            | (go_at_call 18
               go_must (
                 (refine HTX.out.mono ?_)
                 rintro e w2 ⟨rfl, hbel2⟩
                 have hq2 := hbel2.size
                 have HO2 : Hid (w2.ownsRow w1.heap.size 9 1 (.slice A' k c') k ((l.take k).map fun x => Value.string (strOfNums (itoaL x)))) := own_belowJ hst.out.1 hbel2
                 have HB2 := Lib.hid hbel2
                 clear hbel2))
            | (at_builtin
               go_must (
                 (refine wpList_append_any _ rfl (.tmp 42) (.tmp 46) 41 rfl w1.heap.size 9 i0 _ 1 16 Tryd.underlying41 hi0 hz0 hz1 hz2 rfl (by omega) (.slice A' k c') k _ rfl (HO2.out.alloc _) (w2.heap.size + 1) _ 1 1 [.string s] rfl (reads_oneP _ _ _) (by intro u hu; rw [List.mem_singleton] at hu; subst hu; rfl) (by simp only [maxLen]; omega) (by omega) (by simp; omega) ?_)
                 intro v1 w1' hown1 hg1 hat1
                 obtain ⟨A1', c1', rfl⟩ := own_formS hown1
                 have hq5 := hg1.size
                 simp only [World.size_alloc] at hq5
                 have HO1 := Lib.hid hown1
                 have HG1 := Lib.hid hg1
                 clear hown1 hg1 hat1)))
          go_roundw
          case rel =>
            refine ⟨k + 1, A1', c1', by omega, by go_num, by first | trivial | rfl, by omega, ?_, ?_⟩
            · rw [HSN.out]; exact HO1.out
            · exact ((hst.out.2.trans (HB2.out.mono hsz)).alloc (by omega) _).grown HG1.out (by simp; omega) (fun j hj => (HO2.out.lt j hj).1)
          case measure => simp [intOf]; omega
        · obtain rfl : k = N := by omega
          have dk : decide ((k : Int) < (k : Int)) = false := decide_eq_false (by omega)
          have hbr : Below w.heap.size w wr := HBEL1.out.trans (hst.out.2.mono hq1)
          have hown := hst.out.1
          rw [HNL.out, List.take_length, ← HNL.out] at hown
          have hwl : ∀ x ∈ l, -4294967296 ≤ x ∧ x ≤ 4294967295 := fun x hx => by have := HWF.out x hx; omega
          have hjl := jsonList_calls wr A' c' k z l HNL.out (by omega) hwl (Reads.of_own hown)
          have hsj := setjY wr z l (91 :: (jg (itB z) l ++ [93])) rfl (by have := jgB_len z l hwl; have := HNL.out; simp only [List.length_cons, List.length_append, List.length_nil]; omega) k HNL.out (by omega) HWF.out
          obtain ⟨s5, hs5⟩ : ∃ s5, s5 = strOfNums (91 :: (jg (itB z) l ++ [93])) := ⟨_, rfl⟩
          rw [← hs5] at hjl hsj
          have HJL := Lib.hid hjl
          have HSJ := Lib.hid hsj
          have HBR := Lib.hid hbr
          have hqr := hbr.size
          clear hown hbr hjl hsj hs5 hwl hst
          go_wp2_with (first
            | (go_at_call 15
               go_must (
                 (refine HJL.out.mono ?_)
                 rintro e w5 ⟨rfl, hw5⟩
                 have hw5' := hw5.symm
                 subst hw5'))
            | (go_at_call 17
               go_must (
                 (refine HSJ.out.mono ?_)
                 rintro e w7 ⟨out, A7, c7, hso, rfl, hown7, hbel7⟩
                 obtain ⟨n7, hn7⟩ : ∃ n7, n7 = out.length := ⟨_, rfl⟩
                 rw [← hn7] at hown7 ⊢
                 have hn72 : n7 ≤ k := by have := hso.2.2; have := HNL.out; omega
                 have hq7 := hbel7.size
                 have HBEL7 : Hid (Below w.heap.size w w7) := HBR.out.trans (hbel7.mono (by omega))
                 have HR7 : Hid (Reads w7 w7.heap.size 1 A7 n7 (out.map (Value.int .i8))) := Reads.of_own hown7
                 have HSO := Lib.hid hso
                 have HN7 := Lib.hid hn7
                 clear hso hown7 hbel7 hn7))
            | (go_at_call 12
               go_must (
                 (refine (inSetY w7 Al cl k l HNL.out ((HL.out.below HBEL7.out).more HBEL7.out.size) (by omega)).mono ?_)
                 rintro e w8 ⟨out9, g9, c9, hso9, rfl, hown9, hbel9⟩
                 obtain rfl : out9 = out := hso9.unique HSO.out
                 rw [← HN7.out] at hown9 ⊢
                 have hq8 := hbel9.size
                 have HBEL8 : Hid (Below w.heap.size w w8) := HBEL7.out.trans (hbel9.mono (by omega))
                 have HR9 : Hid (Reads w8 w8.heap.size 1 (some ⟨g9, 0, none⟩) n7 (out9.map (Value.int .i8))) := Reads.of_own hown9
                 have HR78 : Hid (Reads w8 w8.heap.size 1 A7 n7 (out9.map (Value.int .i8))) := (HR7.out.below hbel9).more hq8
                 clear hso9 hown9 hbel9))
            | (go_at_call 19
               go_must (
                 (refine (by have hx := sameItY w8 A7 (some ⟨g9, 0, none⟩) c7 c9 out9 (by rw [← HN7.out]; exact HR78.out) (by rw [← HN7.out]; exact HR9.out) (by rw [← HN7.out]; omega); rw [← HN7.out] at hx; exact hx : Calls Tryd.prog 19 #[.slice A7 n7 c7, .slice (some ⟨g9, 0, none⟩) n7 c9] w8 fun e w' => e = .returned (.bool true) ∧ Below w8.heap.size w8 w').mono ?_)
                 rintro e w9 ⟨rfl, hbel9⟩
                 have HBEL9 : Hid (Below w.heap.size w w9) := HBEL8.out.trans (hbel9.mono (by omega))
                 clear hbel9)))
          go_ret
          exact ⟨rfl, HBEL9.out⟩
    · have d3 : decide ((100 : Int) < (N : Int)) = true := decide_eq_true (by omega)
      go_enter Tryd.func6, Tryd.ntmps6
      go_wp2_with (
        (go_at_call 17
         go_must (
           (refine (awakeY w).mono ?_)
           rintro e w1 ⟨g1, c1, rfl, hc1, hbel1⟩
           have HBEL1 := Lib.hid hbel1
           clear hbel1)))
      go_ret
      exact ⟨rfl, HBEL1.out⟩
  · have d1 : decide ((2147483647 : Int) < (N : Int)) = true := decide_eq_true (by omega)
    go_enter Tryd.func6, Tryd.ntmps6
    go_wp2
    go_ret
    exact ⟨rfl, Below.refl _ _⟩
set_option maxHeartbeats 2000000 in
set_option maxRecDepth 100000 in
theorem sameItW (w : World) (A A2 : Option Addr) (c c2 : Nat) (l : List Int) (h : Reads w w.heap.size 1 A l.length (l.map (Value.int .u32))) (h2 : Reads w w.heap.size 1 A2 l.length (l.map (Value.int .u32))) (hl : l.length ≤ 100) :
    Calls Tryd.prog 16 #[.slice A l.length c, .slice A2 l.length c2] w fun e w' => e = .returned (.bool true) ∧ Below w.heap.size w w' := by
  have H := Lib.hid h
  have H2 := Lib.hid h2
  clear h h2
  go_enter Tryd.func16, Tryd.ntmps16
  go_wp2
  go_loopw [13] (fun i wr => ∃ k : Nat, k ≤ l.length ∧ i = .int .i64 k ∧ Hid (Below w.heap.size w wr)) (fun i _ => l.length - (intOf i).toNat)
  case atStart => exact ⟨0, Nat.zero_le _, rfl, Below.refl _ _⟩
  case round =>
    obtain ⟨k, hk, rfl, hrest⟩ := hrel
    by_cases hlt : k < l.length
    · obtain ⟨ad, u, hA, hb, hu, hc⟩ := H.out.at_ hlt
      obtain ⟨ad2, u2, hA2, hb2, hu2, hc2⟩ := H2.out.at_ hlt
      have hv : u = Value.int .u32 l[k] := by
        have := hu.symm.trans (show (l.map (Value.int .u32))[k]? = some (Value.int .u32 l[k]) by rw [List.getElem?_map, List.getElem?_eq_getElem hlt]; rfl)
        injection this
      have hv2 : u2 = Value.int .u32 l[k] := by
        have := hu2.symm.trans (show (l.map (Value.int .u32))[k]? = some (Value.int .u32 l[k]) by rw [List.getElem?_map, List.getElem?_eq_getElem hlt]; rfl)
        injection this
      subst hA hA2 hv hv2
      generalize l[k] = x at *
      have q1 : wr.cell? (ad.add k) = some (Value.int .u32 x) := (hrest.out.cell (by rw [block_of_add]; exact hb)).trans hc
      have q2 : wr.cell? (ad2.add k) = some (Value.int .u32 x) := (hrest.out.cell (by rw [block_of_add]; exact hb2)).trans hc2
      have hk0 : (0 : Int) ≤ (k : Int) := by omega
      have hk1 : (k : Int) < (l.length : Int) := by omega
      clear hu hu2 hc hc2
      go_wp2
      go_quiet (fail)
      go_wp2
      go_roundw
      case rel => exact ⟨k + 1, by omega, by go_num, below_drewN hrest.out _⟩
      case measure => simp [intOf]; omega
    · obtain rfl : k = l.length := by omega
      go_wp2
      go_ret
      exact ⟨rfl, hrest.out⟩


theorem awakeW (w : World) :
    Calls Tryd.prog 13 #[.string ⟨#[91, 53, 93]⟩] w fun e w' => ∃ g1 c1, e = .returned (.tuple #[.slice (some ⟨g1, 0, none⟩) 1 c1, .bool true]) ∧ w'.cell? ⟨g1, 0, none⟩ = some (.int .u32 5) ∧ Below w.heap.size w w' := by
  have e1 : (91 :: (jg (itB false) [5] ++ [93]) : List Int) = [91, 53, 93] := by
    have e2 : itoaL 5 = [53] := by
      unfold itoaL
      rw [if_neg (by omega), show Int.toNat 5 = 5 from rfl, digs_small (by omega)]
      rfl
    show (91 :: ((bl false ++ itoaL 5) ++ [93]) : List Int) = _
    rw [e2]
    rfl
  have h := setjW w false [5] [91, 53, 93] e1.symm (by simp) 1 rfl (by omega) (by intro x hx; rw [List.mem_singleton] at hx; omega)
  rw [show strOfNums [91, 53, 93] = ⟨#[91, 53, 93]⟩ from rfl] at h
  refine h.mono ?_
  rintro e w' ⟨out, A1, c1, hso, rfl, hown, hb⟩
  obtain rfl : out = [5] := hso.unique ⟨List.pairwise_singleton _ _, fun _ => Iff.rfl, Nat.le_refl _⟩
  obtain ⟨g, c', hv, _, _, _⟩ := own_some hown (by decide)
  have hr := Reads.of_own hown
  cases hv
  obtain ⟨ad, had, _, hc⟩ := hr.2 (by decide)
  cases had
  exact ⟨g, c1, rfl, hc 0 _ rfl, hb⟩

set_option maxHeartbeats 8000000 in
set_option maxRecDepth 100000 in
theorem walkSW (w : World) (Al : Option Addr) (cl : Nat) (z : Bool) (l : List Int) (hr : Reads w w.heap.size 1 Al l.length (l.map (Value.int .u32))) (hwf : ∀ x ∈ l, 0 ≤ x ∧ x ≤ 4294967295) :
    Calls Tryd.prog 5 #[.slice Al l.length cl, .bool z] w fun e w' => e = .returned (.bool true) ∧ Below w.heap.size w w' := by
  have HL := Lib.hid hr
  have HWF := Lib.hid hwf
  clear hr hwf
  obtain ⟨N, hNl⟩ : ∃ N, N = l.length := ⟨_, rfl⟩
  rw [← hNl] at HL ⊢
  have HNL := Lib.hid hNl
  clear hNl
  by_cases hb1 : N ≤ 2147483647
  · have d1 : decide ((2147483647 : Int) < (N : Int)) = false := decide_eq_false (by omega)
    by_cases h100 : N ≤ 100
    · have d3 : decide ((100 : Int) < (N : Int)) = false := decide_eq_false (by omega)
      obtain ⟨i0, hi0, hz0, hz1, hz2⟩ := info_parts infoStr
      go_enter Tryd.func5, Tryd.ntmps5
      go_wp2_with (
        (go_at_call 13
         go_must (
           (refine (awakeW w).mono ?_)
           rintro e w1 ⟨g1, c1, rfl, hc1, hbel1⟩
           have HBEL1 := Lib.hid hbel1
           clear hbel1)))
      go_loopw [8, 38] (fun d i wr => ∃ (k : Nat) (A' : Option Addr) (c' : Nat), k ≤ N ∧ i = .int .i64 (k : Nat) ∧ d = .slice A' k c' ∧ w1.heap.size ≤ wr.heap.size ∧ Hid (wr.ownsRow w1.heap.size 9 1 (.slice A' k c') k ((l.take k).map fun x => Value.string (strOfNums (itoaL x))) ∧ Below w1.heap.size w1 wr)) (fun _ i _ => N - (intOf i).toNat)
      case atStart => exact ⟨0, none, 0, Nat.zero_le _, rfl, rfl, Nat.le_refl _, World.ownsRow_nil _ _ _ _, Below.refl _ _⟩
      case round =>
        obtain ⟨k, A', c', hk, rfl, rfl, hsz, hst⟩ := hrel
        have hq1 := HBEL1.out.size
        by_cases hlt : k < N
        · have dk : decide ((k : Int) < (N : Int)) = true := decide_eq_true (by omega)
          obtain ⟨ad, hA, hadB, hkl, hcell0⟩ := HL.out.list hlt
          subst hA
          have hcell : wr.cell? (ad.add k) = some (.int .u32 (l.getD k 0)) := ((HBEL1.out.trans (hst.out.2.mono hq1)).cell (by rw [block_of_add]; exact hadB)).trans hcell0
          obtain ⟨x, hX⟩ : ∃ x, x = l.getD k 0 := ⟨_, rfl⟩
          rw [← hX] at hcell
          have hsn : (l.take (k + 1)).map (fun x => Value.string (strOfNums (itoaL x))) = (l.take k).map (fun x => Value.string (strOfNums (itoaL x))) ++ [.string (strOfNums (itoaL x))] := by rw [show l.take (k + 1) = l.take k ++ [l.getD k 0] by rw [List.take_add_one, List.getElem?_eq_getElem hkl, List.getD, List.getElem?_eq_getElem hkl]; rfl, List.map_append, ← hX]; rfl
          have hx := HWF.out x (by rw [hX]; exact getD_memS l k hkl)
          obtain ⟨hx0, hx1⟩ := hx
          have htx := textW wr x hx0 hx1
          have hwr : IntKind.u64.wrap x = x := by rw [IntKind.wrap_u64]; omega
          obtain ⟨s, hs⟩ : ∃ s, s = strOfNums (itoaL x) := ⟨_, rfl⟩
          rw [← hs] at htx hsn
          have HTX := Lib.hid htx
          have HSN := Lib.hid hsn
          clear hcell0 hsn hX htx hs hx0 hx1
          go_wp2_with (first
            | (go_at_call 14
               go_must (
                 (refine HTX.out.mono ?_)
                 rintro e w2 ⟨rfl, hbel2⟩
                 have hq2 := hbel2.size
                 have HO2 : Hid (w2.ownsRow w1.heap.size 9 1 (.slice A' k c') k ((l.take k).map fun x => Value.string (strOfNums (itoaL x)))) := own_belowJ hst.out.1 hbel2
                 have HB2 := Lib.hid hbel2
                 clear hbel2))
            | (at_builtin
               go_must (
                 (refine wpList_append_any _ rfl (.tmp 42) (.tmp 46) 41 rfl w1.heap.size 9 i0 _ 1 16 Tryd.underlying41 hi0 hz0 hz1 hz2 rfl (by omega) (.slice A' k c') k _ rfl (HO2.out.alloc _) (w2.heap.size + 1) _ 1 1 [.string s] rfl (reads_oneP _ _ _) (by intro u hu; rw [List.mem_singleton] at hu; subst hu; rfl) (by simp only [maxLen]; omega) (by omega) (by simp; omega) ?_)
                 intro v1 w1' hown1 hg1 hat1
                 obtain ⟨A1', c1', rfl⟩ := own_formS hown1
                 have hq5 := hg1.size
                 simp only [World.size_alloc] at hq5
                 have HO1 := Lib.hid hown1
                 have HG1 := Lib.hid hg1
                 clear hown1 hg1 hat1)))
          go_roundw
          case rel =>
            refine ⟨k + 1, A1', c1', by omega, by go_num, by first | trivial | rfl, by omega, ?_, ?_⟩
            · rw [HSN.out]; exact HO1.out
            · exact ((hst.out.2.trans (HB2.out.mono hsz)).alloc (by omega) _).grown HG1.out (by simp; omega) (fun j hj => (HO2.out.lt j hj).1)
          case measure => simp [intOf]; omega
        · obtain rfl : k = N := by omega
          have dk : decide ((k : Int) < (k : Int)) = false := decide_eq_false (by omega)
          have hbr : Below w.heap.size w wr := HBEL1.out.trans (hst.out.2.mono hq1)
          have hown := hst.out.1
          rw [HNL.out, List.take_length, ← HNL.out] at hown
          have hwl : ∀ x ∈ l, -4294967296 ≤ x ∧ x ≤ 4294967295 := fun x hx => by have := HWF.out x hx; omega
          have hjl := jsonList_calls wr A' c' k z l HNL.out (by omega) hwl (Reads.of_own hown)
          have hsj := setjW wr z l (91 :: (jg (itB z) l ++ [93])) rfl (by have := jgB_len z l hwl; have := HNL.out; simp only [List.length_cons, List.length_append, List.length_nil]; omega) k HNL.out (by omega) HWF.out
          obtain ⟨s5, hs5⟩ : ∃ s5, s5 = strOfNums (91 :: (jg (itB z) l ++ [93])) := ⟨_, rfl⟩
          rw [← hs5] at hjl hsj
          have HJL := Lib.hid hjl
          have HSJ := Lib.hid hsj
          have HBR := Lib.hid hbr
          have hqr := hbr.size
          clear hown hbr hjl hsj hs5 hwl hst
          go_wp2_with (first
            | (go_at_call 15
               go_must (
                 (refine HJL.out.mono ?_)
                 rintro e w5 ⟨rfl, hw5⟩
                 have hw5' := hw5.symm
                 subst hw5'))
            | (go_at_call 13
               go_must (
                 (refine HSJ.out.mono ?_)
                 rintro e w7 ⟨out, A7, c7, hso, rfl, hown7, hbel7⟩
                 obtain ⟨n7, hn7⟩ : ∃ n7, n7 = out.length := ⟨_, rfl⟩
                 rw [← hn7] at hown7 ⊢
                 have hn72 : n7 ≤ k := by have := hso.2.2; have := HNL.out; omega
                 have hq7 := hbel7.size
                 have HBEL7 : Hid (Below w.heap.size w w7) := HBR.out.trans (hbel7.mono (by omega))
                 have HR7 : Hid (Reads w7 w7.heap.size 1 A7 n7 (out.map (Value.int .u32))) := Reads.of_own hown7
                 have HSO := Lib.hid hso
                 have HN7 := Lib.hid hn7
                 clear hso hown7 hbel7 hn7))
            | (go_at_call 8
               go_must (
                 (refine (inSetW w7 Al cl k l HNL.out ((HL.out.below HBEL7.out).more HBEL7.out.size) (by omega)).mono ?_)
                 rintro e w8 ⟨out9, g9, c9, hso9, rfl, hown9, hbel9⟩
                 obtain rfl : out9 = out := hso9.unique HSO.out
                 rw [← HN7.out] at hown9 ⊢
                 have hq8 := hbel9.size
                 have HBEL8 : Hid (Below w.heap.size w w8) := HBEL7.out.trans (hbel9.mono (by omega))
                 have HR9 : Hid (Reads w8 w8.heap.size 1 (some ⟨g9, 0, none⟩) n7 (out9.map (Value.int .u32))) := Reads.of_own hown9
                 have HR78 : Hid (Reads w8 w8.heap.size 1 A7 n7 (out9.map (Value.int .u32))) := (HR7.out.below hbel9).more hq8
                 clear hso9 hown9 hbel9))
            | (go_at_call 16
               go_must (
                 (refine (by have hx := sameItW w8 A7 (some ⟨g9, 0, none⟩) c7 c9 out9 (by rw [← HN7.out]; exact HR78.out) (by rw [← HN7.out]; exact HR9.out) (by rw [← HN7.out]; omega); rw [← HN7.out] at hx; exact hx : Calls Tryd.prog 16 #[.slice A7 n7 c7, .slice (some ⟨g9, 0, none⟩) n7 c9] w8 fun e w' => e = .returned (.bool true) ∧ Below w8.heap.size w8 w').mono ?_)
                 rintro e w9 ⟨rfl, hbel9⟩
                 have HBEL9 : Hid (Below w.heap.size w w9) := HBEL8.out.trans (hbel9.mono (by omega))
                 clear hbel9)))
          go_ret
          exact ⟨rfl, HBEL9.out⟩
    · have d3 : decide ((100 : Int) < (N : Int)) = true := decide_eq_true (by omega)
      go_enter Tryd.func5, Tryd.ntmps5
      go_wp2_with (
        (go_at_call 13
         go_must (
           (refine (awakeW w).mono ?_)
           rintro e w1 ⟨g1, c1, rfl, hc1, hbel1⟩
           have HBEL1 := Lib.hid hbel1
           clear hbel1)))
      go_ret
      exact ⟨rfl, HBEL1.out⟩
  · have d1 : decide ((2147483647 : Int) < (N : Int)) = true := decide_eq_true (by omega)
    go_enter Tryd.func5, Tryd.ntmps5
    go_wp2
    go_ret
    exact ⟨rfl, Below.refl _ _⟩
end Go.Proofs.YtikpmeedjdddoaaDoor
