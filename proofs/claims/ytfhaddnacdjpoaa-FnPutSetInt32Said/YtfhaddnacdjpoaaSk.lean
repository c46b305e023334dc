/- The laws FnPutSetByte, FnPutSetInt32: the walks. PRINTED by wip/gensk.py. -/
import Derived.Test.YtfhaddnacdjpoaaSj
import Derived.Test.YtfhaddnacdjpoaaKl
namespace Go.Proofs.Ytfhaddnacdjpoaa
open Go.RowKit
set_option linter.unusedVariables false

/-- 'append([]byte{}, l...)'. -/
theorem wpList_append_fresh {w W : World} {A : Option Addr} {l : List Int} {c : Nat} {ops : Array Oper} {rest : List Oper} {o : Oper} {a : Act} {Q : Exit → Act → World → Prop} (hgd : o.guard = none) (s x : Operand)
    (ho : o.op = .call { callee := .builtin .append, args := #[s, x], argTypes := #[22, 22] }) (hs : a.eval s = .slice (some ⟨W.heap.size, 0, none⟩) 0 0) (hx : a.eval x = .slice A l.length c)
    (hw : w = W.alloc (.cells #[] 5)) (hr : Reads W W.heap.size 1 A l.length (bs l)) (hn : l.length ≤ 70368744177664)
    (h : ∀ g cs w', Hid (Blk w' g 5 cs) → l.length ≤ cs.length → cs.length ≤ maxLen → Hid (cs.take l.length = bs l) → W.heap.size ≤ g → Hid (Below W.heap.size W w') → wpList Try.prog ops Q rest (a.put o.dst (.slice (some ⟨g, 0, none⟩) l.length cs.length)) w') :
    wpList Try.prog ops Q (o :: rest) a w := by
  subst hw
  obtain ⟨i0, hi0, hz0, hz1, hz2⟩ := info_parts infoU8
  refine wpList_append_any _ hgd s x _ ho W.heap.size 5 i0 _ 1 1 Try.underlying22 hi0 hz0 hz1 hz2 rfl (by omega) _ 0 [] hs (World.ownsRow_made W _ 0 (Nat.le_refl _) (by simp) (by simp)) W.heap.size A l.length c (bs l) hx (hr.alloc (Nat.le_refl _) _) (bs_one l) (by simp only [maxLen]; omega) (by omega) (by simp) ?_
  intro v1 w1 hown1 hg1 hat1
  have hne : v1 ≠ .slice none 0 0 := by
    rintro rfl
    rcases hat1 with h | h <;> simp [Value.ownBlock] at h
  have hown : w1.ownsRow W.heap.size 5 1 v1 l.length (bs l) := by simpa using hown1
  obtain ⟨g, cs, hv, hk, hB, hn, hm, ht⟩ := own_blk hown (.inr hne)
  rw [hv]
  refine h g cs w1 hk hn hm ht hB (((Below.refl _ _).alloc (Nat.le_refl _) _).grown hg1 (by simp) (fun k hk => ?_))
  simp [Value.ownBlock] at hk
  omega

theorem few_yes (w : World) (A : Option Addr) (n c : Nat) (h : n ≤ 200) : Calls Try.prog 6 #[.slice A n c] w fun e w' => e = .returned (.bool true) ∧ w = w' := by
  have hd : decide ((n : Int) ≤ 200) = true := by simp; omega
  go_enter Try.func6, Try.ntmps6
  go_wp2
  go_ret
  exact ⟨by simp, rfl⟩
theorem few_no (w : World) (A : Option Addr) (n c : Nat) (h : ¬ n ≤ 200) : Calls Try.prog 6 #[.slice A n c] w fun e w' => e = .returned (.bool false) ∧ w = w' := by
  have hd : decide ((n : Int) ≤ 200) = false := by simp; omega
  go_enter Try.func6, Try.ntmps6
  go_wp2
  go_ret
  exact ⟨by simp, rfl⟩


theorem setOf_one (x : Int) {out : List Int} (h : SetOf [x] out) : out = [x] := h.unique ⟨List.pairwise_singleton _ _, fun _ => Iff.rfl, Nat.le_refl _⟩
theorem setOf_none {out : List Int} (h : SetOf [] out) : out = [] := h.unique SetOf.nil
theorem setOf_ne {l out : List Int} (h : SetOf l out) (h0 : out ≠ []) : l ≠ [] := fun e => h0 (setOf_none (e ▸ h))
theorem isBSB (x : Int) (h : 0 ≤ x) : IsB (encU x) := isB_encU x h
theorem isBSI (x : Int) (h : -2147483648 ≤ x) : IsB (encI x) := isB_encI x

theorem awakeB (w : World) (Al : Option Addr) (cl : Nat) (h : Reads w w.heap.size 1 Al 1 [.int .u8 5]) :
    Calls Try.prog 5 #[.slice none 0 0, .slice Al 1 cl] w fun e w' => ∃ A' c', e = .returned (.slice A' 2 c') ∧ Below w.heap.size w w' := by
  have h0 : Reads w w.heap.size 1 none ([] : List Int).length (bs []) := Reads.none_
  refine (putB w none Al 0 cl 1 [] [5] rfl h0 h (by simp) (by simp) (by omega) (by intro x hx; rw [List.mem_singleton] at hx; omega)).mono ?_
  rintro e w' ⟨out, hso, g, cs, rfl, _, _, _, _, _, hbel⟩
  have := setOf_one 5 hso
  subst this
  exact ⟨_, _, rfl, hbel⟩
def kdB (x : Int) : Int := 3
def uuB (x : Int) : Int := x
theorem takeB (x : Int) (h0 : 0 ≤ x) (h1 : x ≤ 255) (B : Nat) (R : List Int) (hR : IsB R) (W : World) (A : Option Addr) (c : Nat) (h : Reads W B 1 A (encU x ++ R).length (bs (encU x ++ R))) (hB : B ≤ W.heap.size) (hc : (encU x ++ R).length ≤ c) (hm : c ≤ maxLen) :
    Calls Try.prog 13 #[.slice A (encU x ++ R).length c, .int .i64 2] W (Coded W B (pk (kdB x) (uuB x) ⟨#[]⟩ 0) R) := by
  exact takeR_encU x h0 (by omega) R hR W B c A h hB hc hm
theorem sameB (x : Int) (h0 : 0 ≤ x) (h1 : x ≤ 255) (W : World) :
    Calls Try.prog 14 #[.agg #[.int .i64 (kdB x), .int .u64 (uuB x), .string ⟨#[]⟩, .int .i64 0, .slice none 0 0], .agg #[.int .i64 3, .int .u64 (IntKind.u64.wrap x), .string ⟨#[]⟩, .int .i64 0, .slice none 0 0]] W fun e w' => e = .returned (.bool true) ∧ Below W.heap.size W w' := by
  have hw : IntKind.u64.wrap x = x := by rw [IntKind.wrap_u64]; omega
  rw [hw]
  exact SamePack_plain W 3 x 0 ⟨#[]⟩ rfl
set_option maxHeartbeats 8000000 in
set_option maxRecDepth 100000 in
theorem walkB (w : World) (A Al : Option Addr) (c cl : Nat) (la l : List Int) (h : Reads w w.heap.size 1 A la.length (bs la)) (hr : Reads w w.heap.size 1 Al l.length (l.map (Value.int .u8))) (hc : la.length ≤ c) (hwf : ∀ x ∈ l, 0 ≤ x ∧ x ≤ 255) :
    Calls Try.prog 3 #[.slice A la.length c, .slice Al l.length cl] w fun e w' => e = .returned (.bool true) ∧ Below w.heap.size w w' := by
  have H := Lib.hid h
  have HL := Lib.hid hr
  have HWF := Lib.hid hwf
  clear h hr hwf
  obtain ⟨N, hNl⟩ : ∃ N, N = l.length := ⟨_, rfl⟩
  rw [← hNl] at HL ⊢
  have HNL := Lib.hid hNl
  clear hNl
  by_cases hb1 : la.length ≤ 2147483647
  · have d1 : decide ((2147483647 : Int) < (la.length : Int)) = false := decide_eq_false (by omega)
    by_cases hb2 : N ≤ 2147483647
    · have d2 : decide ((2147483647 : Int) < (N : Int)) = false := decide_eq_false (by omega)
      by_cases hf : la.length ≤ 200
      · by_cases h100 : N ≤ 100
        · have d3 : decide ((100 : Int) < (N : Int)) = false := decide_eq_false (by omega)
          obtain ⟨i0, hi0, hz0, hz1, hz2⟩ := info_parts infoPackS
          go_enter Try.func3, Try.ntmps3
          go_wp2_with (first
            | (go_at_call 5
               go_must (
                 (refine (awakeB _ _ _ (by simpa using reads_one w (.int .u8 5) 5)).mono ?_)
                 rintro e w1 ⟨A1, c1, rfl, hbel1⟩
                 have HBEL1 : Hid (Below w.heap.size w w1) := ((Below.refl _ w).alloc (Nat.le_refl _) _).trans (hbel1.mono (by simp))
                 clear hbel1))
            | (go_at_call 6; refine (few_yes _ _ _ _ hf).mono ?_; rintro e w' ⟨rfl, rfl⟩)
            | (go_at_call 7
               go_must (
                 (refine (inSetB _ Al cl N l HNL.out ((HL.out.below HBEL1.out).more HBEL1.out.size) (by omega)).mono ?_)
                 rintro e w3 ⟨out, g3, c3, hso, rfl, hown3, hbel3⟩
                 obtain ⟨n, hn⟩ : ∃ n, n = out.length := ⟨_, rfl⟩
                 rw [← hn] at hown3 ⊢
                 have hnN : n ≤ N := by have := hso.2.2; have := HNL.out; omega
                 have HSO := Lib.hid hso
                 have HNO := Lib.hid hn
                 have HR3 : Hid (Reads w3 w3.heap.size 1 (some ⟨g3, 0, none⟩) n (out.map (Value.int .u8))) := Reads.of_own hown3
                 have HBEL3 : Hid (Below w.heap.size w w3) := HBEL1.out.trans (hbel3.mono HBEL1.out.size)
                 clear hown3 hbel3 hso hn)))
          go_loopw [6, 33] (fun d i wr => ∃ (k : Nat) (A' : Option Addr) (c' : Nat), k ≤ n ∧ i = .int .i64 (k : Nat) ∧ d = .slice A' k c' ∧ Hid (wr.ownsRow w3.heap.size 29 5 (.slice A' k c') k ((out.take k).flatMap fun x => n5 3 (IntKind.u64.wrap x)) ∧ Below w3.heap.size w3 wr)) (fun _ i _ => n - (intOf i).toNat)
          case atStart => exact ⟨0, none, 0, Nat.zero_le _, rfl, rfl, World.ownsRow_nil _ _ _ _, Below.refl _ _⟩
          case round =>
            obtain ⟨k, A', c', hk, rfl, rfl, hst⟩ := hrel
            by_cases hlt : k < n
            · have dk : decide ((k : Int) < (n : Int)) = true := decide_eq_true (by omega)
              obtain ⟨ad, hA, hadB, hkl, hcell0⟩ := HR3.out.list hlt
              cases hA
              have hcell1 : wr.cell? ((⟨g3, 0, none⟩ : Addr).add k) = some (.int .u8 (out.getD k 0)) := (hst.out.2.cell (by rw [block_of_add]; exact hadB)).trans hcell0
              have hcell : wr.cell? ⟨g3, k, none⟩ = some (.int .u8 (out.getD k 0)) := by rwa [add_lit, Nat.zero_add] at hcell1
              obtain ⟨x, hX⟩ : ∃ x, x = out.getD k 0 := ⟨_, rfl⟩
              rw [← hX] at hcell
              have hsn := flat_snocS (fun x => n5 3 (IntKind.u64.wrap x)) out k hkl
              rw [← hX] at hsn
              have hx := HWF.out x ((HSO.out.2.1 x).1 (by rw [hX]; exact getD_memS out k hkl))
              obtain ⟨hx0, hx1⟩ := hx
              obtain ⟨U, hU⟩ : ∃ U, U = IntKind.u64.wrap x := ⟨_, rfl⟩
              have hU' : IntKind.u64.wrap x = U := hU.symm
              have HU := Lib.hid hU
              have HSN := Lib.hid hsn
              have hwz : w3.heap.size ≤ wr.heap.size := hst.out.2.size
              clear hcell0 hcell1 hsn hX hU
              go_wp2_with (
                (at_builtin)
                go_must (
                  (refine wpList_append_any _ rfl (.tmp 37) (.tmp 41) 25 rfl w3.heap.size 29 i0 _ 5 64 Try.underlying25 hi0 hz0 hz1 hz2 rfl (by omega) (.slice A' k c') k _ rfl (hst.out.1.alloc _) (wr.heap.size + 1) _ 1 1 (n5 3 U) rfl (reads_fiveS _ _ _ _) (n5_one _ _) (by simp only [maxLen]; omega) (by omega) (by simp; omega) ?_)
                  intro v1 w1' hown1 hg1 hat1
                  obtain ⟨A1', c1', rfl⟩ := own_formS hown1
                  have HO1 := Lib.hid hown1
                  have HG1 := Lib.hid hg1
                  clear hown1 hg1 hat1))
              go_roundw
              case rel =>
                refine ⟨k + 1, A1', c1', by omega, by go_num, by first | trivial | rfl, ?_, ?_⟩
                · rw [HSN.out, ← HU.out]; exact HO1.out
                · exact (hst.out.2.alloc hwz _).grown HG1.out (by simp; omega) (fun j hj => (hst.out.1.lt j hj).1)
              case measure => simp [intOf]; omega
            · obtain rfl : k = n := by omega
              have dk : decide ((k : Int) < (k : Int)) = false := decide_eq_false (by omega)
              have hbr : Below w.heap.size w wr := HBEL3.out.trans (hst.out.2.mono HBEL3.out.size)
              have HBR := Lib.hid hbr
              have hq := hbr.size
              clear hbr
              by_cases hk0 : k = 0
              · have dz : decide ((k : Int) = 0) = true := decide_eq_true (by omega)
                go_wp2
                go_ret
                exact ⟨rfl, HBR.out⟩
              · have dz : decide ((k : Int) = 0) = false := decide_eq_false (by omega)
                have hown := hst.out.1
                rw [HNO.out, List.take_length, ← HNO.out] at hown
                have HKB : Hid (KRow wr A' k (out.flatMap fun x => n5 3 (IntKind.u64.wrap x))) := KRow.of_own hown
                have hl0 : l ≠ [] := setOf_ne HSO.out (fun e => hk0 (by rw [HNO.out, e]; rfl))
                have HL0 := Lib.hid hl0
                clear hown hl0
                go_wp2_with (first
                  | (at_builtin
                     go_must (
                       refine wpList_append_fresh rfl (.tmp 49) (.tmp 50) rfl rfl rfl rfl ((H.out.below HBR.out).more HBR.out.size) (by omega) ?_
                       intro g5 cs5 w5 hb5 hn5 hm5 ht5 hB5 hbel5))
                  | (go_at_call 5
                     go_must (
                       (refine (putB _ _ Al _ cl N la l HNL.out (bs_reads hb5.out hn5 ht5.out) ((((HL.out.below HBR.out).more HBR.out.size).below hbel5.out).more hbel5.out.size) (by omega) HL0.out (by omega) HWF.out).mono ?_)
                       rintro e w6 ⟨out6, hso6, g6, cs6, rfl, hb6, hn6, hm6, ht6, hB6, hbel6⟩
                       obtain rfl : out6 = out := hso6.unique HSO.out
                       rw [← HNO.out] at hn6 ht6 ⊢
                       obtain ⟨N6, hN6⟩ : ∃ N6, N6 = (la ++ (encA k ++ out6.flatMap encU)).length := ⟨_, rfl⟩
                       have hr6 := bs_reads hb6 hn6 ht6
                       rw [← hN6] at hn6 ht6 hr6 ⊢
                       have HR6 := Lib.hid hr6
                       have HN6 := Lib.hid hN6
                       have HBEL6 := Lib.hid hbel6
                       clear hb6 ht6 hN6 hr6 hbel6 hso6))
                  | (go_at_call 8
                     go_must (
                       (refine (isSet_calls w6 w6.heap.size c cs6.length N6 k c' A (some ⟨g6, 0, none⟩) A' la (encA k ++ (out6.flatMap encU ++ [])) out6 (fun x => n5 (kdB x) (uuB x)) (fun x => n5 3 (IntKind.u64.wrap x)) (by rw [List.append_nil]; exact HN6.out) HNO.out
                         (((((H.out.below HBR.out).more HBR.out.size).below hbel5.out).more hbel5.out.size |>.below HBEL6.out).more HBEL6.out.size) (by rw [List.append_nil]; exact HR6.out) (Nat.le_refl _) hc hn6 hm6
                         (fun W A c h hB hc hm => take_array encU kdB uuB w6.heap.size k out6 [] HNO.out (by omega) (by intro x hx; cases hx) (fun x hx => isBSB x (HWF.out x ((HSO.out.2.1 x).1 hx)).1) (fun x _ => (encU_length x).1) (fun x hx R hR W A c h hB hc hm => takeB x (HWF.out x ((HSO.out.2.1 x).1 hx)).1 (HWF.out x ((HSO.out.2.1 x).1 hx)).2 w6.heap.size R hR W A c h hB hc hm) W A c h hB hc hm)
                         ((HKB.out.below hbel5.out).below HBEL6.out)
                         (fun W A5 c5 ha hb => SamePack_kids W A5 A' k c5 c' kdB uuB (fun _ => 3) (fun x => IntKind.u64.wrap x) out6 HNO.out (by omega) ha hb (fun x hx W => sameB x (HWF.out x ((HSO.out.2.1 x).1 hx)).1 (HWF.out x ((HSO.out.2.1 x).1 hx)).2 W))).mono ?_)
                       rintro e w7 ⟨rfl, hbel7⟩
                       have HBEL7 := Lib.hid hbel7
                       clear hbel7)))
                go_ret
                have q1 := HBR.out.size
                have q2 := hbel5.out.size
                have q3 := HBEL6.out.size
                exact ⟨rfl, ((HBR.out.trans (hbel5.out.mono q1)).trans (HBEL6.out.mono (by omega))).trans (HBEL7.out.mono (by omega))⟩
        · have d3 : decide ((100 : Int) < (N : Int)) = true := decide_eq_true (by omega)
          go_enter Try.func3, Try.ntmps3
          go_wp2_with (first
            | (go_at_call 5
               go_must (
                 (refine (awakeB _ _ _ (by simpa using reads_one w (.int .u8 5) 5)).mono ?_)
                 rintro e w1 ⟨A1, c1, rfl, hbel1⟩
                 have HBEL1 : Hid (Below w.heap.size w w1) := ((Below.refl _ w).alloc (Nat.le_refl _) _).trans (hbel1.mono (by simp))
                 clear hbel1))
            | (go_at_call 6; refine (few_yes _ _ _ _ hf).mono ?_; rintro e w' ⟨rfl, rfl⟩))
          go_ret
          exact ⟨rfl, HBEL1.out⟩
      · go_enter Try.func3, Try.ntmps3
        go_wp2_with (first
          | (go_at_call 5
             go_must (
               (refine (awakeB _ _ _ (by simpa using reads_one w (.int .u8 5) 5)).mono ?_)
               rintro e w1 ⟨A1, c1, rfl, hbel1⟩
               have HBEL1 : Hid (Below w.heap.size w w1) := ((Below.refl _ w).alloc (Nat.le_refl _) _).trans (hbel1.mono (by simp))
               clear hbel1))
          | (go_at_call 6; refine (few_no _ _ _ _ hf).mono ?_; rintro e w' ⟨rfl, rfl⟩))
        go_ret
        exact ⟨rfl, HBEL1.out⟩
    · have d2 : decide ((2147483647 : Int) < (N : Int)) = true := decide_eq_true (by omega)
      go_enter Try.func3, Try.ntmps3
      go_wp2
      go_ret
      exact ⟨rfl, Below.refl _ _⟩
  · have d1 : decide ((2147483647 : Int) < (la.length : Int)) = true := decide_eq_true (by omega)
    go_enter Try.func3, Try.ntmps3
    go_wp2
    go_ret
    exact ⟨rfl, Below.refl _ _⟩

theorem awakeI (w : World) (Al : Option Addr) (cl : Nat) (h : Reads w w.heap.size 1 Al 1 [.int .i32 5]) :
    Calls Try.prog 9 #[.slice none 0 0, .slice Al 1 cl] w fun e w' => ∃ A' c', e = .returned (.slice A' 2 c') ∧ Below w.heap.size w w' := by
  have h0 : Reads w w.heap.size 1 none ([] : List Int).length (bs []) := Reads.none_
  refine (putI w none Al 0 cl 1 [] [5] rfl h0 h (by simp) (by simp) (by omega) (by intro x hx; rw [List.mem_singleton] at hx; omega)).mono ?_
  rintro e w' ⟨out, hso, g, cs, rfl, _, _, _, _, _, hbel⟩
  have := setOf_one 5 hso
  subst this
  exact ⟨_, _, rfl, hbel⟩
def kdI (x : Int) : Int := if x < 0 then 2 else 3
def uuI (x : Int) : Int := if x < 0 then sx x 0 else x
theorem takeI (x : Int) (h0 : -2147483648 ≤ x) (h1 : x ≤ 2147483647) (B : Nat) (R : List Int) (hR : IsB R) (W : World) (A : Option Addr) (c : Nat) (h : Reads W B 1 A (encI x ++ R).length (bs (encI x ++ R))) (hB : B ≤ W.heap.size) (hc : (encI x ++ R).length ≤ c) (hm : c ≤ maxLen) :
    Calls Try.prog 13 #[.slice A (encI x ++ R).length c, .int .i64 2] W (Coded W B (pk (kdI x) (uuI x) ⟨#[]⟩ 0) R) := by
  by_cases hx : x < 0
  · have e1 : kdI x = 2 := if_pos hx
    have e2 : uuI x = sx x 0 := if_pos hx
    rw [e1, e2]
    exact takeR_encI_neg x (by omega) hx R hR W B c A h hB hc hm
  · have e1 : kdI x = 3 := if_neg hx
    have e2 : uuI x = x := if_neg hx
    rw [e1, e2]
    exact takeR_encI_pos x (by omega) (by omega) R hR W B c A h hB hc hm
theorem sameI (x : Int) (h0 : -2147483648 ≤ x) (h1 : x ≤ 2147483647) (W : World) :
    Calls Try.prog 14 #[.agg #[.int .i64 (kdI x), .int .u64 (uuI x), .string ⟨#[]⟩, .int .i64 0, .slice none 0 0], .agg #[.int .i64 2, .int .u64 (IntKind.u64.wrap x), .string ⟨#[]⟩, .int .i64 0, .slice none 0 0]] W fun e w' => e = .returned (.bool true) ∧ Below W.heap.size W w' := by
  by_cases hx : x < 0
  · have e1 : kdI x = 2 := if_pos hx
    have e2 : uuI x = sx x 0 := if_pos hx
    have hw : IntKind.u64.wrap x = sx x 0 := by unfold sx; rw [IntKind.wrap_u64]; omega
    rw [e1, e2, hw]
    exact SamePack_neg W (sx x 0) 0 ⟨#[]⟩ (by unfold sx; omega) (by unfold sx; omega)
  · have e1 : kdI x = 3 := if_neg hx
    have e2 : uuI x = x := if_neg hx
    have hw : IntKind.u64.wrap x = x := by rw [IntKind.wrap_u64]; omega
    rw [e1, e2, hw]
    exact SamePack_posR W x 0 ⟨#[]⟩ (by omega) (by omega)
set_option maxHeartbeats 8000000 in
set_option maxRecDepth 100000 in
theorem walkI (w : World) (A Al : Option Addr) (c cl : Nat) (la l : List Int) (h : Reads w w.heap.size 1 A la.length (bs la)) (hr : Reads w w.heap.size 1 Al l.length (l.map (Value.int .i32))) (hc : la.length ≤ c) (hwf : ∀ x ∈ l, -2147483648 ≤ x ∧ x ≤ 2147483647) :
    Calls Try.prog 4 #[.slice A la.length c, .slice Al l.length cl] w fun e w' => e = .returned (.bool true) ∧ Below w.heap.size w w' := by
  have H := Lib.hid h
  have HL := Lib.hid hr
  have HWF := Lib.hid hwf
  clear h hr hwf
  obtain ⟨N, hNl⟩ : ∃ N, N = l.length := ⟨_, rfl⟩
  rw [← hNl] at HL ⊢
  have HNL := Lib.hid hNl
  clear hNl
  by_cases hb1 : la.length ≤ 2147483647
  · have d1 : decide ((2147483647 : Int) < (la.length : Int)) = false := decide_eq_false (by omega)
    by_cases hb2 : N ≤ 2147483647
    · have d2 : decide ((2147483647 : Int) < (N : Int)) = false := decide_eq_false (by omega)
      by_cases hf : la.length ≤ 200
      · by_cases h100 : N ≤ 100
        · have d3 : decide ((100 : Int) < (N : Int)) = false := decide_eq_false (by omega)
          obtain ⟨i0, hi0, hz0, hz1, hz2⟩ := info_parts infoPackS
          go_enter Try.func4, Try.ntmps4
          go_wp2_with (first
            | (go_at_call 9
               go_must (
                 (refine (awakeI _ _ _ (by simpa using reads_one w (.int .i32 5) 21)).mono ?_)
                 rintro e w1 ⟨A1, c1, rfl, hbel1⟩
                 have HBEL1 : Hid (Below w.heap.size w w1) := ((Below.refl _ w).alloc (Nat.le_refl _) _).trans (hbel1.mono (by simp))
                 clear hbel1))
            | (go_at_call 6; refine (few_yes _ _ _ _ hf).mono ?_; rintro e w' ⟨rfl, rfl⟩)
            | (go_at_call 10
               go_must (
                 (refine (inSetI _ Al cl N l HNL.out ((HL.out.below HBEL1.out).more HBEL1.out.size) (by omega)).mono ?_)
                 rintro e w3 ⟨out, g3, c3, hso, rfl, hown3, hbel3⟩
                 obtain ⟨n, hn⟩ : ∃ n, n = out.length := ⟨_, rfl⟩
                 rw [← hn] at hown3 ⊢
                 have hnN : n ≤ N := by have := hso.2.2; have := HNL.out; omega
                 have HSO := Lib.hid hso
                 have HNO := Lib.hid hn
                 have HR3 : Hid (Reads w3 w3.heap.size 1 (some ⟨g3, 0, none⟩) n (out.map (Value.int .i32))) := Reads.of_own hown3
                 have HBEL3 : Hid (Below w.heap.size w w3) := HBEL1.out.trans (hbel3.mono HBEL1.out.size)
                 clear hown3 hbel3 hso hn)))
          go_loopw [6, 33] (fun d i wr => ∃ (k : Nat) (A' : Option Addr) (c' : Nat), k ≤ n ∧ i = .int .i64 (k : Nat) ∧ d = .slice A' k c' ∧ Hid (wr.ownsRow w3.heap.size 29 5 (.slice A' k c') k ((out.take k).flatMap fun x => n5 2 (IntKind.u64.wrap x)) ∧ Below w3.heap.size w3 wr)) (fun _ i _ => n - (intOf i).toNat)
          case atStart => exact ⟨0, none, 0, Nat.zero_le _, rfl, rfl, World.ownsRow_nil _ _ _ _, Below.refl _ _⟩
          case round =>
            obtain ⟨k, A', c', hk, rfl, rfl, hst⟩ := hrel
            by_cases hlt : k < n
            · have dk : decide ((k : Int) < (n : Int)) = true := decide_eq_true (by omega)
              obtain ⟨ad, hA, hadB, hkl, hcell0⟩ := HR3.out.list hlt
              cases hA
              have hcell1 : wr.cell? ((⟨g3, 0, none⟩ : Addr).add k) = some (.int .i32 (out.getD k 0)) := (hst.out.2.cell (by rw [block_of_add]; exact hadB)).trans hcell0
              have hcell : wr.cell? ⟨g3, k, none⟩ = some (.int .i32 (out.getD k 0)) := by rwa [add_lit, Nat.zero_add] at hcell1
              obtain ⟨x, hX⟩ : ∃ x, x = out.getD k 0 := ⟨_, rfl⟩
              rw [← hX] at hcell
              have hsn := flat_snocS (fun x => n5 2 (IntKind.u64.wrap x)) out k hkl
              rw [← hX] at hsn
              have hx := HWF.out x ((HSO.out.2.1 x).1 (by rw [hX]; exact getD_memS out k hkl))
              obtain ⟨hx0, hx1⟩ := hx
              have hw64 : IntKind.i64.wrap x = x := by rw [IntKind.wrap_i64]; omega
              obtain ⟨U, hU⟩ : ∃ U, U = IntKind.u64.wrap x := ⟨_, rfl⟩
              have hU' : IntKind.u64.wrap x = U := hU.symm
              have HU := Lib.hid hU
              have HSN := Lib.hid hsn
              have hwz : w3.heap.size ≤ wr.heap.size := hst.out.2.size
              clear hcell0 hcell1 hsn hX hU
              go_wp2_with (
                (at_builtin)
                go_must (
                  (refine wpList_append_any _ rfl (.tmp 37) (.tmp 42) 25 rfl w3.heap.size 29 i0 _ 5 64 Try.underlying25 hi0 hz0 hz1 hz2 rfl (by omega) (.slice A' k c') k _ rfl (hst.out.1.alloc _) (wr.heap.size + 1) _ 1 1 (n5 2 U) rfl (reads_fiveS _ _ _ _) (n5_one _ _) (by simp only [maxLen]; omega) (by omega) (by simp; omega) ?_)
                  intro v1 w1' hown1 hg1 hat1
                  obtain ⟨A1', c1', rfl⟩ := own_formS hown1
                  have HO1 := Lib.hid hown1
                  have HG1 := Lib.hid hg1
                  clear hown1 hg1 hat1))
              go_roundw
              case rel =>
                refine ⟨k + 1, A1', c1', by omega, by go_num, by first | trivial | rfl, ?_, ?_⟩
                · rw [HSN.out, ← HU.out]; exact HO1.out
                · exact (hst.out.2.alloc hwz _).grown HG1.out (by simp; omega) (fun j hj => (hst.out.1.lt j hj).1)
              case measure => simp [intOf]; omega
            · obtain rfl : k = n := by omega
              have dk : decide ((k : Int) < (k : Int)) = false := decide_eq_false (by omega)
              have hbr : Below w.heap.size w wr := HBEL3.out.trans (hst.out.2.mono HBEL3.out.size)
              have HBR := Lib.hid hbr
              have hq := hbr.size
              clear hbr
              by_cases hk0 : k = 0
              · have dz : decide ((k : Int) = 0) = true := decide_eq_true (by omega)
                go_wp2
                go_ret
                exact ⟨rfl, HBR.out⟩
              · have dz : decide ((k : Int) = 0) = false := decide_eq_false (by omega)
                have hown := hst.out.1
                rw [HNO.out, List.take_length, ← HNO.out] at hown
                have HKB : Hid (KRow wr A' k (out.flatMap fun x => n5 2 (IntKind.u64.wrap x))) := KRow.of_own hown
                have hl0 : l ≠ [] := setOf_ne HSO.out (fun e => hk0 (by rw [HNO.out, e]; rfl))
                have HL0 := Lib.hid hl0
                clear hown hl0
                go_wp2_with (first
                  | (at_builtin
                     go_must (
                       refine wpList_append_fresh rfl (.tmp 50) (.tmp 51) rfl rfl rfl rfl ((H.out.below HBR.out).more HBR.out.size) (by omega) ?_
                       intro g5 cs5 w5 hb5 hn5 hm5 ht5 hB5 hbel5))
                  | (go_at_call 9
                     go_must (
                       (refine (putI _ _ Al _ cl N la l HNL.out (bs_reads hb5.out hn5 ht5.out) ((((HL.out.below HBR.out).more HBR.out.size).below hbel5.out).more hbel5.out.size) (by omega) HL0.out (by omega) HWF.out).mono ?_)
                       rintro e w6 ⟨out6, hso6, g6, cs6, rfl, hb6, hn6, hm6, ht6, hB6, hbel6⟩
                       obtain rfl : out6 = out := hso6.unique HSO.out
                       rw [← HNO.out] at hn6 ht6 ⊢
                       obtain ⟨N6, hN6⟩ : ∃ N6, N6 = (la ++ (encA k ++ out6.flatMap encI)).length := ⟨_, rfl⟩
                       have hr6 := bs_reads hb6 hn6 ht6
                       rw [← hN6] at hn6 ht6 hr6 ⊢
                       have HR6 := Lib.hid hr6
                       have HN6 := Lib.hid hN6
                       have HBEL6 := Lib.hid hbel6
                       clear hb6 ht6 hN6 hr6 hbel6 hso6))
                  | (go_at_call 8
                     go_must (
                       (refine (isSet_calls w6 w6.heap.size c cs6.length N6 k c' A (some ⟨g6, 0, none⟩) A' la (encA k ++ (out6.flatMap encI ++ [])) out6 (fun x => n5 (kdI x) (uuI x)) (fun x => n5 2 (IntKind.u64.wrap x)) (by rw [List.append_nil]; exact HN6.out) HNO.out
                         (((((H.out.below HBR.out).more HBR.out.size).below hbel5.out).more hbel5.out.size |>.below HBEL6.out).more HBEL6.out.size) (by rw [List.append_nil]; exact HR6.out) (Nat.le_refl _) hc hn6 hm6
                         (fun W A c h hB hc hm => take_array encI kdI uuI w6.heap.size k out6 [] HNO.out (by omega) (by intro x hx; cases hx) (fun x hx => isBSI x (HWF.out x ((HSO.out.2.1 x).1 hx)).1) (fun x _ => (encI_length x).1) (fun x hx R hR W A c h hB hc hm => takeI x (HWF.out x ((HSO.out.2.1 x).1 hx)).1 (HWF.out x ((HSO.out.2.1 x).1 hx)).2 w6.heap.size R hR W A c h hB hc hm) W A c h hB hc hm)
                         ((HKB.out.below hbel5.out).below HBEL6.out)
                         (fun W A5 c5 ha hb => SamePack_kids W A5 A' k c5 c' kdI uuI (fun _ => 2) (fun x => IntKind.u64.wrap x) out6 HNO.out (by omega) ha hb (fun x hx W => sameI x (HWF.out x ((HSO.out.2.1 x).1 hx)).1 (HWF.out x ((HSO.out.2.1 x).1 hx)).2 W))).mono ?_)
                       rintro e w7 ⟨rfl, hbel7⟩
                       have HBEL7 := Lib.hid hbel7
                       clear hbel7)))
                go_ret
                have q1 := HBR.out.size
                have q2 := hbel5.out.size
                have q3 := HBEL6.out.size
                exact ⟨rfl, ((HBR.out.trans (hbel5.out.mono q1)).trans (HBEL6.out.mono (by omega))).trans (HBEL7.out.mono (by omega))⟩
        · have d3 : decide ((100 : Int) < (N : Int)) = true := decide_eq_true (by omega)
          go_enter Try.func4, Try.ntmps4
          go_wp2_with (first
            | (go_at_call 9
               go_must (
                 (refine (awakeI _ _ _ (by simpa using reads_one w (.int .i32 5) 21)).mono ?_)
                 rintro e w1 ⟨A1, c1, rfl, hbel1⟩
                 have HBEL1 : Hid (Below w.heap.size w w1) := ((Below.refl _ w).alloc (Nat.le_refl _) _).trans (hbel1.mono (by simp))
                 clear hbel1))
            | (go_at_call 6; refine (few_yes _ _ _ _ hf).mono ?_; rintro e w' ⟨rfl, rfl⟩))
          go_ret
          exact ⟨rfl, HBEL1.out⟩
      · go_enter Try.func4, Try.ntmps4
        go_wp2_with (first
          | (go_at_call 9
             go_must (
               (refine (awakeI _ _ _ (by simpa using reads_one w (.int .i32 5) 21)).mono ?_)
               rintro e w1 ⟨A1, c1, rfl, hbel1⟩
               have HBEL1 : Hid (Below w.heap.size w w1) := ((Below.refl _ w).alloc (Nat.le_refl _) _).trans (hbel1.mono (by simp))
               clear hbel1))
          | (go_at_call 6; refine (few_no _ _ _ _ hf).mono ?_; rintro e w' ⟨rfl, rfl⟩))
        go_ret
        exact ⟨rfl, HBEL1.out⟩
    · have d2 : decide ((2147483647 : Int) < (N : Int)) = true := decide_eq_true (by omega)
      go_enter Try.func4, Try.ntmps4
      go_wp2
      go_ret
      exact ⟨rfl, Below.refl _ _⟩
  · have d1 : decide ((2147483647 : Int) < (la.length : Int)) = true := decide_eq_true (by omega)
    go_enter Try.func4, Try.ntmps4
    go_wp2
    go_ret
    exact ⟨rfl, Below.refl _ _⟩
end Go.Proofs.Ytfhaddnacdjpoaa
