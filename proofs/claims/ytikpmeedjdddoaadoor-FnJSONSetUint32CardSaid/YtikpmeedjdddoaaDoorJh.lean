/- The laws FnJSONSetUint32, FnJSONSetInt8: the walks. PRINTED by wip/genjh.py. -/
import Derived.Test.YtikpmeedjdddoaaDoorJg
import Derived.Test.YtikpmeedjdddoaaDoorJk
namespace Go.Proofs.YtikpmeedjdddoaaDoor
open Go.RowKit
set_option linter.unusedVariables false

theorem grownJ_fresh {a b c : World} {row row2 : Option Nat} (h : a.grownBy b row) (hg : b.grownBy c row2) (hr : ∀ j, row2 = some j → a.heap.size ≤ j) : a.grownBy c row :=
  ⟨hg.os.trans h.os, hg.tape.trans h.tape, hg.output.trans h.output, Nat.le_trans h.size hg.size, fun j hj hn => (hg.block j (Nat.lt_of_lt_of_le hj h.size) (fun e => by have := hr j e.symm; omega)).trans (h.block j hj hn)⟩
theorem itoaL_all (x : Int) : ∀ b ∈ itoaL x, 0 ≤ b ∧ b ≤ 255 := by
  intro b hb
  unfold itoaL at hb
  split at hb
  · rw [List.mem_cons] at hb
    rcases hb with rfl | hb
    · omega
    · have := digs_all _ b hb; omega
  · have := digs_all _ b hb; omega
theorem jn_all (l : List Int) : ∀ b ∈ jn l, 0 ≤ b ∧ b ≤ 255 := by
  induction l with
  | nil => intro b hb; cases hb
  | cons x r ih =>
    cases r with
    | nil => exact itoaL_all x
    | cons y r =>
      intro b hb
      simp only [jn, List.mem_append, List.mem_cons] at hb
      rcases hb with hb | rfl | hb
      · exact itoaL_all x b hb
      · omega
      · exact ih b hb
/-- The text of a list is one that is read. -/
theorem strJ_list (l : List Int) (h : ∀ x ∈ l, -4294967296 ≤ x ∧ x ≤ 4294967295) (hl : l.length ≤ 1000) : StrJ (strOfNums (91 :: (jn l ++ [93]))) (91 :: (jn l ++ [93])) := by
  refine StrJ.of_nums _ (fun b hb => ?_) ?_
  · simp only [List.mem_cons, List.mem_append, List.not_mem_nil, or_false] at hb
    rcases hb with rfl | hb | rfl
    · omega
    · exact jn_all l b hb
    · omega
  · have := jn_len l h
    simp only [List.length_cons, List.length_append, List.length_nil]
    omega
theorem KRow.grownJ {w w' : World} {A : Option Addr} {n : Nat} {xs : List Value} {row : Option Nat} (h : KRow w A n xs) (hg : w.grownBy w' row) (hr : ∀ j, row = some j → w.heap.size ≤ j) : KRow w' A n xs := by
  intro hn
  obtain ⟨g, e1, e2, e3⟩ := h hn
  have hgs := hg.size
  refine ⟨g, e1, by omega, fun i u hu => ?_⟩
  rw [World.cell?_of_block (hg.block g e2 (fun e => by have := hr g e.symm; omega))]
  exact e3 i u hu

theorem awakeW (w : World) (A : Option Addr) (c : Nat) (h : Reads w w.heap.size 1 A 1 [.int .u32 5]) (ht : TabJ w) :
    Calls Tryd.prog 7 #[.slice A 1 c] w fun e w' => ∃ s : ByteArray, e = .returned (.string s) ∧ s.size = 3 ∧ Below w.heap.size w w' := by
  refine (jsonW w A c 1 [5] rfl h (by omega) (by intro x hx; rw [List.mem_singleton] at hx; omega) ht).mono ?_
  rintro e w' ⟨out, hso, rfl, hb⟩
  obtain rfl : out = [5] := hso.unique ⟨List.pairwise_singleton _ _, fun _ => Iff.rfl, Nat.le_refl _⟩
  refine ⟨_, rfl, ?_, hb⟩
  have e1 : jn [5] = [53] := by
    show itoaL 5 = [53]
    unfold itoaL
    rw [if_neg (by omega), show Int.toNat 5 = 5 from rfl, digs_small (by omega)]
    rfl
  rw [e1]
  rfl
theorem sameW (x : Int) (h0 : 0 ≤ x) (h1 : x ≤ 4294967295) (W : World) :
    Calls Tryd.prog 10 #[.agg #[.int .i64 (kdJ x), .int .u64 (IntKind.u64.wrap x), .string ⟨#[]⟩, .int .i64 0, .slice none 0 0], .agg #[.int .i64 3, .int .u64 (IntKind.u64.wrap x), .string ⟨#[]⟩, .int .i64 0, .slice none 0 0]] W fun e w' => e = .returned (.bool true) ∧ Below W.heap.size W w' := by
  have hk : kdJ x = 3 := if_neg (by omega)
  rw [hk]
  exact SamePack_plain W 3 _ 0 ⟨#[]⟩ rfl

set_option maxHeartbeats 8000000 in
set_option maxRecDepth 100000 in
theorem walkW (w : World) (Al : Option Addr) (cl : Nat) (l : List Int) (hr : Reads w w.heap.size 1 Al l.length (l.map (Value.int .u32))) (hwf : ∀ x ∈ l, 0 ≤ x ∧ x ≤ 4294967295) (ht : TabJ w) :
    Calls Tryd.prog 3 #[.slice Al l.length cl] w fun e w' => e = .returned (.bool true) ∧ Below w.heap.size w w' := by
  have HL := Lib.hid hr
  have HWF := Lib.hid hwf
  have HT := Lib.hid ht
  clear hr hwf ht
  obtain ⟨N, hNl⟩ : ∃ N, N = l.length := ⟨_, rfl⟩
  rw [← hNl] at HL ⊢
  have HNL := Lib.hid hNl
  clear hNl
  by_cases hb1 : N ≤ 2147483647
  · have d1 : decide ((2147483647 : Int) < (N : Int)) = false := decide_eq_false (by omega)
    by_cases h100 : N ≤ 100
    · have d3 : decide ((100 : Int) < (N : Int)) = false := decide_eq_false (by omega)
      by_cases hz0 : N = 0
      · subst hz0
        go_enter Tryd.func3, Tryd.ntmps3
        go_wp2_with (
          (go_at_call 7
           go_must (
             (refine (awakeW _ _ 1 (by simpa using reads_oneP w (.int .u32 5) 24) (HT.out.on ((Below.refl _ w).alloc (Nat.le_refl _) _))).mono ?_)
             rintro e w1 ⟨s1, rfl, hsz1, hbel1⟩
             have dsz : decide ((2 : Int) < (s1.size : Int)) = true := decide_eq_true (by omega)
             have dszn : decide (2 < s1.size) = true := decide_eq_true (by omega)
             have HBEL1 : Hid (Below w.heap.size w w1) := ((Below.refl _ w).alloc (Nat.le_refl _) _).trans (hbel1.mono (by simp))
             clear hbel1 hsz1)))
        go_ret
        exact ⟨rfl, HBEL1.out⟩
      · have d4 : ((N : Int) == 0) = false := by rw [beq_eq_false_iff_ne]; omega
        have d4n : (N == 0) = false := by rw [beq_eq_false_iff_ne]; omega
        have d4d : decide ((N : Int) = 0) = false := decide_eq_false (by omega)
        obtain ⟨i0, hi0, hz0', hz1, hz2⟩ := info_parts infoPackS
        go_enter Tryd.func3, Tryd.ntmps3
        go_wp2_with (first
          | (go_at_call 7
             go_must (
               (refine (awakeW _ _ 1 (by simpa using reads_oneP w (.int .u32 5) 24) (HT.out.on ((Below.refl _ w).alloc (Nat.le_refl _) _))).mono ?_)
               rintro e w1 ⟨s1, rfl, hsz1, hbel1⟩
               have dsz : decide ((2 : Int) < (s1.size : Int)) = true := decide_eq_true (by omega)
               have dszn : decide (2 < s1.size) = true := decide_eq_true (by omega)
               have HBEL1 : Hid (Below w.heap.size w w1) := ((Below.refl _ w).alloc (Nat.le_refl _) _).trans (hbel1.mono (by simp))
               clear hbel1 hsz1))
          | (go_at_call 8
             go_must (
               have hl2 := (HL.out.below HBEL1.out).more HBEL1.out.size
               (refine (inSetW _ Al cl N l HNL.out ((hl2.alloc (Nat.le_refl _) _).more (Nat.le_of_lt (by simp))) (by omega)).mono ?_)
               rintro e w3 ⟨out, g3, c3, hso, rfl, hown3, hbel3⟩
               obtain ⟨m, hm⟩ : ∃ m, m = out.length := ⟨_, rfl⟩
               rw [← hm] at hown3 ⊢
               have hmN : m ≤ N := by have := hso.2.2; have := HNL.out; omega
               have hm0 : 0 < m := by
                 rcases Nat.eq_zero_or_pos m with h | h
                 · have e1 : out = [] := List.eq_nil_of_length_eq_zero (by omega)
                   have e2 : l = [] := by
                     rcases hl3 : l with _ | ⟨y, r⟩
                     · rfl
                     · exact absurd ((hso.2.1 y).2 (by rw [hl3]; exact List.mem_cons_self ..)) (by rw [e1]; simp)
                   have := HNL.out
                   rw [e2] at this
                   simp at this
                   omega
                 · exact h
               have hv3 : Blk w3 w1.heap.size 28 [.int .i64 8, .int .u64 0, .string ⟨#[]⟩, .int .i64 0, .slice none 0 0] := (Blk.new w1 _ [_, _, _, _, _]).below hbel3 (by simp)
               have hg3 : w1.heap.size < g3 := by
                 rcases hown3.2 with ⟨hv, _⟩ | ⟨g', cap, cur, hv, hbase, _⟩
                 · cases hv
                 · cases hv
                   have e : (w1.alloc (.cells #[.int .i64 8, .int .u64 0, .string ⟨#[]⟩, .int .i64 0, .slice none 0 0] 28)).heap.size = w1.heap.size + 1 := by simp
                   omega
               have HSO := Lib.hid hso
               have HM := Lib.hid hm
               have HV3 := Lib.hid hv3
               have HR3 : Hid (Reads w3 w3.heap.size 1 (some ⟨g3, 0, none⟩) m (out.map (Value.int .u32))) := Reads.of_own hown3
               have HBEL3 : Hid (Below w.heap.size w w3) := (HBEL1.out.alloc HBEL1.out.size _).trans (hbel3.mono (by have := HBEL1.out.size; simp; omega))
               have hq3 : w1.heap.size < w3.heap.size := hv3.lt
               clear hown3 hbel3 hso hm hv3 hl2)))
        go_loopw [29] (fun i wr => ∃ (k : Nat) (A' : Option Addr) (c' : Nat), k ≤ m ∧ i = .int .i64 (k : Nat) ∧ w3.heap.size ≤ wr.heap.size ∧ Hid (Blk wr w1.heap.size 28 [.int .i64 8, .int .u64 0, .string ⟨#[]⟩, .int .i64 0, .slice A' k c'] ∧ wr.ownsRow w3.heap.size 28 5 (.slice A' k c') k ((out.take k).flatMap fun x => n5 3 (IntKind.u64.wrap x)) ∧ w3.grownBy wr (some w1.heap.size))) (fun i _ => m - (intOf i).toNat)
        case atStart => exact ⟨0, none, 0, Nat.zero_le _, rfl, Nat.le_refl _, HV3.out, World.ownsRow_nil _ _ _ _, grownJ_refl _ _⟩
        case round =>
          obtain ⟨k, A', c', hk, rfl, hsz, hst⟩ := hrel
          have hq1 := HBEL1.out.size
          by_cases hlt : k < m
          · have dk : decide ((k : Int) < (m : Int)) = true := decide_eq_true (by omega)
            obtain ⟨ad, hA, hadB, hkl, hcell0⟩ := HR3.out.list hlt
            cases hA
            have hcell1 : wr.cell? ((⟨g3, 0, none⟩ : Addr).add k) = some (.int .u32 (out.getD k 0)) := (World.cell?_of_block (hst.out.2.2.block _ (by rw [block_of_add]; exact hadB) (fun e => by rw [block_of_add] at e; injection e with e; simp at e; omega))).trans hcell0
            have hcell : wr.cell? ⟨g3, k, none⟩ = some (.int .u32 (out.getD k 0)) := by rwa [add_lit, Nat.zero_add] at hcell1
            obtain ⟨x, hX⟩ : ∃ x, x = out.getD k 0 := ⟨_, rfl⟩
            rw [← hX] at hcell
            have hsn := flat_snocS (fun x => n5 3 (IntKind.u64.wrap x)) out k hkl
            rw [← hX] at hsn
            have hx := HWF.out x ((HSO.out.2.1 x).1 (by rw [hX]; exact getD_memS out k hkl))
            obtain ⟨hx0, hx1⟩ := hx
            have hw64 : IntKind.i64.wrap x = x := by rw [IntKind.wrap_i64]; omega
            obtain ⟨V, hV⟩ : ∃ V, V = IntKind.u64.wrap x := ⟨_, rfl⟩
            have hV' : IntKind.u64.wrap x = V := hV.symm
            have HVV := Lib.hid hV
            have HSN := Lib.hid hsn
            have r4 := hst.out.1.cell 4
            simp only [List.getElem?_cons_zero, List.getElem?_cons_succ] at r4
            clear hcell0 hcell1 hsn hX hV
            go_wp2_with (
              (at_builtin)
              go_must (
                (refine wpList_append_any _ rfl (.tmp 34) (.tmp 38) 26 rfl w3.heap.size 28 i0 _ 5 64 Tryd.underlying26 hi0 hz0' hz1 hz2 rfl (by omega) (.slice A' k c') k _ rfl (hst.out.2.1.alloc _) (wr.heap.size + 1) _ 1 1 (n5 3 V) rfl (reads_fiveS _ _ _ _) (n5_one _ _) (by simp only [maxLen]; omega) (by omega) (by simp; omega) ?_)
                intro v1 w1' hown1 hg1 hat1
                obtain ⟨A1', c1', rfl⟩ := own_formS hown1
                have hne1 : some w1.heap.size ≠ (Value.slice A' k c').ownBlock := fun e => by have := (hst.out.2.1.lt w1.heap.size e.symm).1; omega
                have hbk : Blk w1' w1.heap.size 28 [.int .i64 8, .int .u64 0, .string ⟨#[]⟩, .int .i64 0, .slice A' k c'] := (hst.out.1.alloc _).grown hg1 hne1
                have r4' := hbk.cell 4
                simp only [List.getElem?_cons_zero, List.getElem?_cons_succ] at r4'
                have f4' := hbk.frozen 4
                have hq5 := hg1.size
                simp only [World.size_alloc] at hq5
                have HBK := Lib.hid hbk
                have HO1 := Lib.hid hown1
                have HG1 := Lib.hid hg1
                clear hown1 hg1 hat1 hbk hne1))
            go_roundw
            case rel =>
              refine ⟨k + 1, A1', c1', by omega, by go_num, by simp; omega, HBK.out.set_ 4 _, ?_, ?_⟩
              · rw [HSN.out, ← HVV.out]
                exact own_setS HO1.out (fun e => by have := (HO1.out.lt w1.heap.size e.symm).1; omega)
              · exact grownJ_trans (grownJ_fresh (grownJ_trans hst.out.2.2 (World.grownBy_alloc _ _ _)) HG1.out (fun j hj => (hst.out.2.1.lt j hj).1)) (grownJ_set _ _ _ _)
            case measure => simp [intOf]; omega
          · obtain rfl : k = m := by omega
            have dk : decide ((k : Int) < (k : Int)) = false := decide_eq_false (by omega)
            have hbr : Below w.heap.size w wr := HBEL3.out.grown hst.out.2.2 HBEL3.out.size (fun j hj => by cases hj; exact hq1)
            have hown := hst.out.2.1
            rw [HM.out, List.take_length, ← HM.out] at hown
            have HKB : Hid (KRow wr A' k (out.flatMap fun x => n5 3 (IntKind.u64.wrap x))) := KRow.of_own hown
            have HVR := Lib.hid hst.out.1
            have hjs := jsonW wr Al cl N l HNL.out ((HL.out.below hbr).more hbr.size) (by omega) HWF.out (HT.out.on hbr)
            have HJS := Lib.hid hjs
            have HBR := Lib.hid hbr
            have hqr := hbr.size
            have hvl := hst.out.1.lt
            clear hown hbr hjs hst
            go_wp2_with (first
              | (go_at_call 7
                 go_must (
                   (refine HJS.out.mono ?_)
                   rintro e w5 ⟨out5, hso5, rfl, hbel5⟩
                   obtain rfl : out5 = out := hso5.unique HSO.out
                   have hwo : ∀ x ∈ out5, -4294967296 ≤ x ∧ x ≤ 4294967295 := fun x hx => by
                     have := HWF.out x ((HSO.out.2.1 x).1 hx); omega
                   have hrj := readJ w5 (strOfNums (91 :: (jn out5 ++ [93]))) out5 (91 :: (jn out5 ++ [93])) rfl (strJ_list out5 hwo (by have := HM.out; omega)) k HM.out hm0 (by omega) hwo
                   obtain ⟨s5, hs5⟩ : ∃ s5, s5 = strOfNums (91 :: (jn out5 ++ [93])) := ⟨_, rfl⟩
                   rw [← hs5] at hrj ⊢
                   have HRJ := Lib.hid hrj
                   have hq5 := hbel5.size
                   have HB5 := Lib.hid hbel5
                   clear hso5 hbel5 hrj hwo hs5))
              | (go_at_call 9
                 go_must (
                   (refine HRJ.out.mono ?_)
                   rintro e w6 ⟨A6, c6, rfl, ho6, hbel6⟩
                   have hq6 := hbel6.size
                   have HK6 : Hid (KRow w6 A6 k (out5.flatMap fun x => n5 (kdJ x) (IntKind.u64.wrap x))) := KRow.of_own ho6
                   have HKB6 : Hid (KRow w6 A' k (out5.flatMap fun x => n5 3 (IntKind.u64.wrap x))) := (HKB.out.below HB5.out).below hbel6
                   have hv6 : Blk w6 w1.heap.size 28 [.int .i64 8, .int .u64 0, .string ⟨#[]⟩, .int .i64 0, .slice A' k c'] := (HVR.out.below HB5.out (by omega)).below hbel6 (by omega)
                   obtain ⟨e0, e1, e2, e3, e4⟩ := blk_cells5 hv6
                   have HB6 : Hid (Below w.heap.size w w6) := (HBR.out.trans (HB5.out.mono hqr)).trans (hbel6.mono (by omega))
                   have hlt6 : w1.heap.size < w6.heap.size := by omega
                   clear ho6 hbel6 hv6))
              | (go_at_call 10
                 go_must (
                   (refine (SamePack_kids (w6.alloc (.cells #[.int .i64 8, .int .u64 0, .string ⟨#[]⟩, .int .i64 0, .slice A6 k c6] 28)) A6 A' k c6 c' kdJ (fun x => IntKind.u64.wrap x) (fun _ => 3) (fun x => IntKind.u64.wrap x) out5 HM.out (by omega) (HK6.out.grownJ (World.grownBy_alloc _ _ none) (fun j hj => by cases hj)) (HKB6.out.grownJ (World.grownBy_alloc _ _ none) (fun j hj => by cases hj)) (fun x hx W => sameW x (HWF.out x ((HSO.out.2.1 x).1 hx)).1 (HWF.out x ((HSO.out.2.1 x).1 hx)).2 W)).mono ?_)
                   rintro e w7 ⟨rfl, hbel7⟩
                   have HB7 : Hid (Below w.heap.size w w7) := (HB6.out.alloc HB6.out.size _).trans (hbel7.mono (by have := HB6.out.size; simp; omega))
                   clear hbel7)))
            go_ret
            exact ⟨rfl, HB7.out⟩
    · have d3 : decide ((100 : Int) < (N : Int)) = true := decide_eq_true (by omega)
      go_enter Tryd.func3, Tryd.ntmps3
      go_wp2_with (
        (go_at_call 7
         go_must (
           (refine (awakeW _ _ 1 (by simpa using reads_oneP w (.int .u32 5) 24) (HT.out.on ((Below.refl _ w).alloc (Nat.le_refl _) _))).mono ?_)
           rintro e w1 ⟨s1, rfl, hsz1, hbel1⟩
           have dsz : decide ((2 : Int) < (s1.size : Int)) = true := decide_eq_true (by omega)
           have dszn : decide (2 < s1.size) = true := decide_eq_true (by omega)
           have HBEL1 : Hid (Below w.heap.size w w1) := ((Below.refl _ w).alloc (Nat.le_refl _) _).trans (hbel1.mono (by simp))
           clear hbel1 hsz1)))
      go_ret
      exact ⟨rfl, HBEL1.out⟩
  · have d1 : decide ((2147483647 : Int) < (N : Int)) = true := decide_eq_true (by omega)
    go_enter Tryd.func3, Tryd.ntmps3
    go_wp2
    go_ret
    exact ⟨rfl, Below.refl _ _⟩

theorem awakeY (w : World) (A : Option Addr) (c : Nat) (h : Reads w w.heap.size 1 A 1 [.int .i8 5]) (ht : TabJ w) :
    Calls Tryd.prog 11 #[.slice A 1 c] w fun e w' => ∃ s : ByteArray, e = .returned (.string s) ∧ s.size = 3 ∧ Below w.heap.size w w' := by
  refine (jsonY w A c 1 [5] rfl h (by omega) (by intro x hx; rw [List.mem_singleton] at hx; omega) ht).mono ?_
  rintro e w' ⟨out, hso, rfl, hb⟩
  obtain rfl : out = [5] := hso.unique ⟨List.pairwise_singleton _ _, fun _ => Iff.rfl, Nat.le_refl _⟩
  refine ⟨_, rfl, ?_, hb⟩
  have e1 : jn [5] = [53] := by
    show itoaL 5 = [53]
    unfold itoaL
    rw [if_neg (by omega), show Int.toNat 5 = 5 from rfl, digs_small (by omega)]
    rfl
  rw [e1]
  rfl
theorem sameY (x : Int) (h0 : -128 ≤ x) (h1 : x ≤ 127) (W : World) :
    Calls Tryd.prog 10 #[.agg #[.int .i64 (kdJ x), .int .u64 (IntKind.u64.wrap x), .string ⟨#[]⟩, .int .i64 0, .slice none 0 0], .agg #[.int .i64 2, .int .u64 (IntKind.u64.wrap x), .string ⟨#[]⟩, .int .i64 0, .slice none 0 0]] W fun e w' => e = .returned (.bool true) ∧ Below W.heap.size W w' := by
  by_cases hx : x < 0
  · have hk : kdJ x = 2 := if_pos hx
    have hw : IntKind.u64.wrap x = x + 18446744073709551616 := by rw [IntKind.wrap_u64]; omega
    rw [hk, hw]
    exact SamePack_neg W _ 0 ⟨#[]⟩ (by omega) (by omega)
  · have hk : kdJ x = 3 := if_neg hx
    have hw : IntKind.u64.wrap x = x := by rw [IntKind.wrap_u64]; omega
    rw [hk, hw]
    exact SamePack_posR W x 0 ⟨#[]⟩ (by omega) (by omega)

set_option maxHeartbeats 8000000 in
set_option maxRecDepth 100000 in
theorem walkY (w : World) (Al : Option Addr) (cl : Nat) (l : List Int) (hr : Reads w w.heap.size 1 Al l.length (l.map (Value.int .i8))) (hwf : ∀ x ∈ l, -128 ≤ x ∧ x ≤ 127) (ht : TabJ w) :
    Calls Tryd.prog 4 #[.slice Al l.length cl] w fun e w' => e = .returned (.bool true) ∧ Below w.heap.size w w' := by
  have HL := Lib.hid hr
  have HWF := Lib.hid hwf
  have HT := Lib.hid ht
  clear hr hwf ht
  obtain ⟨N, hNl⟩ : ∃ N, N = l.length := ⟨_, rfl⟩
  rw [← hNl] at HL ⊢
  have HNL := Lib.hid hNl
  clear hNl
  by_cases hb1 : N ≤ 2147483647
  · have d1 : decide ((2147483647 : Int) < (N : Int)) = false := decide_eq_false (by omega)
    by_cases h100 : N ≤ 100
    · have d3 : decide ((100 : Int) < (N : Int)) = false := decide_eq_false (by omega)
      by_cases hz0 : N = 0
      · subst hz0
        go_enter Tryd.func4, Tryd.ntmps4
        go_wp2_with (
          (go_at_call 11
           go_must (
             (refine (awakeY _ _ 1 (by simpa using reads_oneP w (.int .i8 5) 36) (HT.out.on ((Below.refl _ w).alloc (Nat.le_refl _) _))).mono ?_)
             rintro e w1 ⟨s1, rfl, hsz1, hbel1⟩
             have dsz : decide ((2 : Int) < (s1.size : Int)) = true := decide_eq_true (by omega)
             have dszn : decide (2 < s1.size) = true := decide_eq_true (by omega)
             have HBEL1 : Hid (Below w.heap.size w w1) := ((Below.refl _ w).alloc (Nat.le_refl _) _).trans (hbel1.mono (by simp))
             clear hbel1 hsz1)))
        go_ret
        exact ⟨rfl, HBEL1.out⟩
      · have d4 : ((N : Int) == 0) = false := by rw [beq_eq_false_iff_ne]; omega
        have d4n : (N == 0) = false := by rw [beq_eq_false_iff_ne]; omega
        have d4d : decide ((N : Int) = 0) = false := decide_eq_false (by omega)
        obtain ⟨i0, hi0, hz0', hz1, hz2⟩ := info_parts infoPackS
        go_enter Tryd.func4, Tryd.ntmps4
        go_wp2_with (first
          | (go_at_call 11
             go_must (
               (refine (awakeY _ _ 1 (by simpa using reads_oneP w (.int .i8 5) 36) (HT.out.on ((Below.refl _ w).alloc (Nat.le_refl _) _))).mono ?_)
               rintro e w1 ⟨s1, rfl, hsz1, hbel1⟩
               have dsz : decide ((2 : Int) < (s1.size : Int)) = true := decide_eq_true (by omega)
               have dszn : decide (2 < s1.size) = true := decide_eq_true (by omega)
               have HBEL1 : Hid (Below w.heap.size w w1) := ((Below.refl _ w).alloc (Nat.le_refl _) _).trans (hbel1.mono (by simp))
               clear hbel1 hsz1))
          | (go_at_call 12
             go_must (
               have hl2 := (HL.out.below HBEL1.out).more HBEL1.out.size
               (refine (inSetY _ Al cl N l HNL.out ((hl2.alloc (Nat.le_refl _) _).more (Nat.le_of_lt (by simp))) (by omega)).mono ?_)
               rintro e w3 ⟨out, g3, c3, hso, rfl, hown3, hbel3⟩
               obtain ⟨m, hm⟩ : ∃ m, m = out.length := ⟨_, rfl⟩
               rw [← hm] at hown3 ⊢
               have hmN : m ≤ N := by have := hso.2.2; have := HNL.out; omega
               have hm0 : 0 < m := by
                 rcases Nat.eq_zero_or_pos m with h | h
                 · have e1 : out = [] := List.eq_nil_of_length_eq_zero (by omega)
                   have e2 : l = [] := by
                     rcases hl3 : l with _ | ⟨y, r⟩
                     · rfl
                     · exact absurd ((hso.2.1 y).2 (by rw [hl3]; exact List.mem_cons_self ..)) (by rw [e1]; simp)
                   have := HNL.out
                   rw [e2] at this
                   simp at this
                   omega
                 · exact h
               have hv3 : Blk w3 w1.heap.size 28 [.int .i64 8, .int .u64 0, .string ⟨#[]⟩, .int .i64 0, .slice none 0 0] := (Blk.new w1 _ [_, _, _, _, _]).below hbel3 (by simp)
               have hg3 : w1.heap.size < g3 := by
                 rcases hown3.2 with ⟨hv, _⟩ | ⟨g', cap, cur, hv, hbase, _⟩
                 · cases hv
                 · cases hv
                   have e : (w1.alloc (.cells #[.int .i64 8, .int .u64 0, .string ⟨#[]⟩, .int .i64 0, .slice none 0 0] 28)).heap.size = w1.heap.size + 1 := by simp
                   omega
               have HSO := Lib.hid hso
               have HM := Lib.hid hm
               have HV3 := Lib.hid hv3
               have HR3 : Hid (Reads w3 w3.heap.size 1 (some ⟨g3, 0, none⟩) m (out.map (Value.int .i8))) := Reads.of_own hown3
               have HBEL3 : Hid (Below w.heap.size w w3) := (HBEL1.out.alloc HBEL1.out.size _).trans (hbel3.mono (by have := HBEL1.out.size; simp; omega))
               have hq3 : w1.heap.size < w3.heap.size := hv3.lt
               clear hown3 hbel3 hso hm hv3 hl2)))
        go_loopw [29] (fun i wr => ∃ (k : Nat) (A' : Option Addr) (c' : Nat), k ≤ m ∧ i = .int .i64 (k : Nat) ∧ w3.heap.size ≤ wr.heap.size ∧ Hid (Blk wr w1.heap.size 28 [.int .i64 8, .int .u64 0, .string ⟨#[]⟩, .int .i64 0, .slice A' k c'] ∧ wr.ownsRow w3.heap.size 28 5 (.slice A' k c') k ((out.take k).flatMap fun x => n5 2 (IntKind.u64.wrap x)) ∧ w3.grownBy wr (some w1.heap.size))) (fun i _ => m - (intOf i).toNat)
        case atStart => exact ⟨0, none, 0, Nat.zero_le _, rfl, Nat.le_refl _, HV3.out, World.ownsRow_nil _ _ _ _, grownJ_refl _ _⟩
        case round =>
          obtain ⟨k, A', c', hk, rfl, hsz, hst⟩ := hrel
          have hq1 := HBEL1.out.size
          by_cases hlt : k < m
          · have dk : decide ((k : Int) < (m : Int)) = true := decide_eq_true (by omega)
            obtain ⟨ad, hA, hadB, hkl, hcell0⟩ := HR3.out.list hlt
            cases hA
            have hcell1 : wr.cell? ((⟨g3, 0, none⟩ : Addr).add k) = some (.int .i8 (out.getD k 0)) := (World.cell?_of_block (hst.out.2.2.block _ (by rw [block_of_add]; exact hadB) (fun e => by rw [block_of_add] at e; injection e with e; simp at e; omega))).trans hcell0
            have hcell : wr.cell? ⟨g3, k, none⟩ = some (.int .i8 (out.getD k 0)) := by rwa [add_lit, Nat.zero_add] at hcell1
            obtain ⟨x, hX⟩ : ∃ x, x = out.getD k 0 := ⟨_, rfl⟩
            rw [← hX] at hcell
            have hsn := flat_snocS (fun x => n5 2 (IntKind.u64.wrap x)) out k hkl
            rw [← hX] at hsn
            have hx := HWF.out x ((HSO.out.2.1 x).1 (by rw [hX]; exact getD_memS out k hkl))
            obtain ⟨hx0, hx1⟩ := hx
            have hw64 : IntKind.i64.wrap x = x := by rw [IntKind.wrap_i64]; omega
            obtain ⟨V, hV⟩ : ∃ V, V = IntKind.u64.wrap x := ⟨_, rfl⟩
            have hV' : IntKind.u64.wrap x = V := hV.symm
            have HVV := Lib.hid hV
            have HSN := Lib.hid hsn
            have r4 := hst.out.1.cell 4
            simp only [List.getElem?_cons_zero, List.getElem?_cons_succ] at r4
            clear hcell0 hcell1 hsn hX hV
            go_wp2_with (
              (at_builtin)
              go_must (
                (refine wpList_append_any _ rfl (.tmp 34) (.tmp 39) 26 rfl w3.heap.size 28 i0 _ 5 64 Tryd.underlying26 hi0 hz0' hz1 hz2 rfl (by omega) (.slice A' k c') k _ rfl (hst.out.2.1.alloc _) (wr.heap.size + 1) _ 1 1 (n5 2 V) rfl (reads_fiveS _ _ _ _) (n5_one _ _) (by simp only [maxLen]; omega) (by omega) (by simp; omega) ?_)
                intro v1 w1' hown1 hg1 hat1
                obtain ⟨A1', c1', rfl⟩ := own_formS hown1
                have hne1 : some w1.heap.size ≠ (Value.slice A' k c').ownBlock := fun e => by have := (hst.out.2.1.lt w1.heap.size e.symm).1; omega
                have hbk : Blk w1' w1.heap.size 28 [.int .i64 8, .int .u64 0, .string ⟨#[]⟩, .int .i64 0, .slice A' k c'] := (hst.out.1.alloc _).grown hg1 hne1
                have r4' := hbk.cell 4
                simp only [List.getElem?_cons_zero, List.getElem?_cons_succ] at r4'
                have f4' := hbk.frozen 4
                have hq5 := hg1.size
                simp only [World.size_alloc] at hq5
                have HBK := Lib.hid hbk
                have HO1 := Lib.hid hown1
                have HG1 := Lib.hid hg1
                clear hown1 hg1 hat1 hbk hne1))
            go_roundw
            case rel =>
              refine ⟨k + 1, A1', c1', by omega, by go_num, by simp; omega, HBK.out.set_ 4 _, ?_, ?_⟩
              · rw [HSN.out, ← HVV.out]
                exact own_setS HO1.out (fun e => by have := (HO1.out.lt w1.heap.size e.symm).1; omega)
              · exact grownJ_trans (grownJ_fresh (grownJ_trans hst.out.2.2 (World.grownBy_alloc _ _ _)) HG1.out (fun j hj => (hst.out.2.1.lt j hj).1)) (grownJ_set _ _ _ _)
            case measure => simp [intOf]; omega
          · obtain rfl : k = m := by omega
            have dk : decide ((k : Int) < (k : Int)) = false := decide_eq_false (by omega)
            have hbr : Below w.heap.size w wr := HBEL3.out.grown hst.out.2.2 HBEL3.out.size (fun j hj => by cases hj; exact hq1)
            have hown := hst.out.2.1
            rw [HM.out, List.take_length, ← HM.out] at hown
            have HKB : Hid (KRow wr A' k (out.flatMap fun x => n5 2 (IntKind.u64.wrap x))) := KRow.of_own hown
            have HVR := Lib.hid hst.out.1
            have hjs := jsonY wr Al cl N l HNL.out ((HL.out.below hbr).more hbr.size) (by omega) HWF.out (HT.out.on hbr)
            have HJS := Lib.hid hjs
            have HBR := Lib.hid hbr
            have hqr := hbr.size
            have hvl := hst.out.1.lt
            clear hown hbr hjs hst
            go_wp2_with (first
              | (go_at_call 11
                 go_must (
                   (refine HJS.out.mono ?_)
                   rintro e w5 ⟨out5, hso5, rfl, hbel5⟩
                   obtain rfl : out5 = out := hso5.unique HSO.out
                   have hwo : ∀ x ∈ out5, -4294967296 ≤ x ∧ x ≤ 4294967295 := fun x hx => by
                     have := HWF.out x ((HSO.out.2.1 x).1 hx); omega
                   have hrj := readJ w5 (strOfNums (91 :: (jn out5 ++ [93]))) out5 (91 :: (jn out5 ++ [93])) rfl (strJ_list out5 hwo (by have := HM.out; omega)) k HM.out hm0 (by omega) hwo
                   obtain ⟨s5, hs5⟩ : ∃ s5, s5 = strOfNums (91 :: (jn out5 ++ [93])) := ⟨_, rfl⟩
                   rw [← hs5] at hrj ⊢
                   have HRJ := Lib.hid hrj
                   have hq5 := hbel5.size
                   have HB5 := Lib.hid hbel5
                   clear hso5 hbel5 hrj hwo hs5))
              | (go_at_call 9
                 go_must (
                   (refine HRJ.out.mono ?_)
                   rintro e w6 ⟨A6, c6, rfl, ho6, hbel6⟩
                   have hq6 := hbel6.size
                   have HK6 : Hid (KRow w6 A6 k (out5.flatMap fun x => n5 (kdJ x) (IntKind.u64.wrap x))) := KRow.of_own ho6
                   have HKB6 : Hid (KRow w6 A' k (out5.flatMap fun x => n5 2 (IntKind.u64.wrap x))) := (HKB.out.below HB5.out).below hbel6
                   have hv6 : Blk w6 w1.heap.size 28 [.int .i64 8, .int .u64 0, .string ⟨#[]⟩, .int .i64 0, .slice A' k c'] := (HVR.out.below HB5.out (by omega)).below hbel6 (by omega)
                   obtain ⟨e0, e1, e2, e3, e4⟩ := blk_cells5 hv6
                   have HB6 : Hid (Below w.heap.size w w6) := (HBR.out.trans (HB5.out.mono hqr)).trans (hbel6.mono (by omega))
                   have hlt6 : w1.heap.size < w6.heap.size := by omega
                   clear ho6 hbel6 hv6))
              | (go_at_call 10
                 go_must (
                   (refine (SamePack_kids (w6.alloc (.cells #[.int .i64 8, .int .u64 0, .string ⟨#[]⟩, .int .i64 0, .slice A6 k c6] 28)) A6 A' k c6 c' kdJ (fun x => IntKind.u64.wrap x) (fun _ => 2) (fun x => IntKind.u64.wrap x) out5 HM.out (by omega) (HK6.out.grownJ (World.grownBy_alloc _ _ none) (fun j hj => by cases hj)) (HKB6.out.grownJ (World.grownBy_alloc _ _ none) (fun j hj => by cases hj)) (fun x hx W => sameY x (HWF.out x ((HSO.out.2.1 x).1 hx)).1 (HWF.out x ((HSO.out.2.1 x).1 hx)).2 W)).mono ?_)
                   rintro e w7 ⟨rfl, hbel7⟩
                   have HB7 : Hid (Below w.heap.size w w7) := (HB6.out.alloc HB6.out.size _).trans (hbel7.mono (by have := HB6.out.size; simp; omega))
                   clear hbel7)))
            go_ret
            exact ⟨rfl, HB7.out⟩
    · have d3 : decide ((100 : Int) < (N : Int)) = true := decide_eq_true (by omega)
      go_enter Tryd.func4, Tryd.ntmps4
      go_wp2_with (
        (go_at_call 11
         go_must (
           (refine (awakeY _ _ 1 (by simpa using reads_oneP w (.int .i8 5) 36) (HT.out.on ((Below.refl _ w).alloc (Nat.le_refl _) _))).mono ?_)
           rintro e w1 ⟨s1, rfl, hsz1, hbel1⟩
           have dsz : decide ((2 : Int) < (s1.size : Int)) = true := decide_eq_true (by omega)
           have dszn : decide (2 < s1.size) = true := decide_eq_true (by omega)
           have HBEL1 : Hid (Below w.heap.size w w1) := ((Below.refl _ w).alloc (Nat.le_refl _) _).trans (hbel1.mono (by simp))
           clear hbel1 hsz1)))
      go_ret
      exact ⟨rfl, HBEL1.out⟩
  · have d1 : decide ((2147483647 : Int) < (N : Int)) = true := decide_eq_true (by omega)
    go_enter Tryd.func4, Tryd.ntmps4
    go_wp2
    go_ret
    exact ⟨rfl, Below.refl _ _⟩
end Go.Proofs.YtikpmeedjdddoaaDoor
