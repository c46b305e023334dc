/- Forms.putInt: an integer in a form that is chosen. PRINTED by wip/genpe.py. -/
import Derived.Test.YtfhaddnacdjpoaaDoorPc
namespace Go.Proofs.YtfhaddnacdjpoaaDoor
open Go.RowKit
set_option linter.unusedVariables false

/-- The forms of an integer. -/
def IntF (n : Int) (e : List Int) : Prop :=
  (0 ≤ n ∧ n < 128 ∧ e = [n]) ∨ (-32 ≤ n ∧ n < 0 ∧ e = [n + 256]) ∨ (∃ p ∈ ([(204, 1), (205, 2), (206, 4), (207, 8)] : List (Int × Nat)), okF n p = true ∧ 0 ≤ n ∧ e = p.1 :: be n p.2) ∨
  (∃ p ∈ ([(208, 1), (209, 2), (210, 4), (211, 8)] : List (Int × Nat)), -(2 ^ (8 * p.2 - 1)) ≤ n ∧ n < 2 ^ (8 * p.2 - 1) ∧ e = p.1 :: be n p.2)
theorem intF_len {n : Int} {e : List Int} (h : IntF n e) : 0 < e.length ∧ e.length ≤ 9 := by
  rcases h with ⟨_, _, rfl⟩ | ⟨_, _, rfl⟩ | ⟨p, hp, _, _, rfl⟩ | ⟨p, hp, _, _, rfl⟩
  · simp
  · simp
  · rw [List.length_cons, be_length]
    simp only [List.mem_cons, List.not_mem_nil, or_false] at hp
    rcases hp with rfl | rfl | rfl | rfl <;> simp
  · rw [List.length_cons, be_length]
    simp only [List.mem_cons, List.not_mem_nil, or_false] at hp
    rcases hp with rfl | rfl | rfl | rfl <;> simp
theorem byt_mod (n : Int) (i : Nat) (h : i < 8) : byt (n % 18446744073709551616) i = byt n i := by
  unfold byt
  have hi : i = 0 ∨ i = 1 ∨ i = 2 ∨ i = 3 ∨ i = 4 ∨ i = 5 ∨ i = 6 ∨ i = 7 := by omega
  rcases hi with rfl | rfl | rfl | rfl | rfl | rfl | rfl | rfl <;> simp only [Int.reducePow] <;> omega
theorem be_mod (n : Int) (k : Nat) (h : k ≤ 8) : be (n % 18446744073709551616) k = be n k := by
  induction k with
  | zero => rfl
  | succ k ih => rw [be, be, byt_mod n k (by omega), ih (by omega)]
theorem infoBytes : (Tryd.prog.info? 24).map (fun i => (i.zero, i.size, i.bytes)) = some (some (.slice none 0 0), 1, 24) := by kernel_rfl
/-- A slice of bytes of the call's own, whose bytes are as F says. -/
def El (W : World) (B : Nat) (F : List Int → Prop) (x : Value) : Prop :=
  ∃ g cs e, x = .slice (some ⟨g, 0, none⟩) e.length cs.length ∧ Blk W g 5 cs ∧ e.length ≤ cs.length ∧ cs.length ≤ maxLen ∧ cs.take e.length = bs e ∧ F e ∧ B ≤ g
theorem El.grown {W W' : World} {B : Nat} {F : List Int → Prop} {x : Value} (h : El W B F x) {row : Option Nat} (hg : W.grownBy W' row) (hr : ∀ k, row = some k → ∃ t cs, Blk W k t cs ∧ t ≠ 5) : El W' B F x := by
  obtain ⟨g, cs, e, hx, hb, rest⟩ := h
  refine ⟨g, cs, e, hx, hb.grown hg (fun hk => ?_), rest⟩
  obtain ⟨t, cs', hb', ht⟩ := hr g hk.symm
  exact hb'.ne_ hb ht rfl
theorem El.below {W W' : World} {B : Nat} {F : List Int → Prop} {x : Value} (h : El W B F x) (hb : Below W.heap.size W W') : El W' B F x :=
  h.grown (belowP_grown hb none) (fun k hk => by cases hk)
theorem El.own {W : World} {B : Nat} {F : List Int → Prop} {A : Option Addr} {c : Nat} {e : List Int} (h : W.ownsRow B 5 1 (.slice A e.length c) e.length (bs e)) (h0 : 0 < e.length) (hf : F e) : El W B F (.slice A e.length c) := by
  obtain ⟨g, cs, hv, hb, hB, hn, hm, ht⟩ := own_blk h (.inl h0)
  exact ⟨g, cs, e, hv, hb, hn, hm, ht, hf, hB⟩
/-- The forms that were collected. -/
def MS (W : World) (B : Nat) (F : List Int → Prop) (v : Value) (k : Nat) : Prop := ∃ xs, W.ownsRow B 24 1 v k xs ∧ ∀ x ∈ xs, El W B F x
theorem MS.below {W W' : World} {B : Nat} {F : List Int → Prop} {v : Value} {k : Nat} (h : MS W B F v k) (hb : Below W.heap.size W W') : MS W' B F v k := by
  obtain ⟨xs, ho, hx⟩ := h
  refine ⟨xs, ho.kept (belowP_grown hb none) ?_, fun x hm => (hx x hm).below hb⟩
  cases v.ownBlock <;> simp
theorem MS.nil (W : World) (B : Nat) (F : List Int → Prop) : MS W B F (.slice none 0 0) 0 := ⟨[], ⟨by simp, .inl ⟨rfl, rfl⟩⟩, fun x hx => by cases hx⟩
theorem own_blk_t {w : World} {base n : Nat} {T : TypeId} {v : Value} {xs : List Value} (h : w.ownsRow base T 1 v n xs) : ∀ k, v.ownBlock = some k → ∃ cs, Blk w k T cs := by
  intro k hk
  have hne : v ≠ .slice none 0 0 := by rintro rfl; simp [Value.ownBlock] at hk
  obtain ⟨g, cs, hv, hb, hB, _, _, _⟩ := own_blk h (.inr hne)
  rw [hv] at hk
  simp [Value.ownBlock] at hk
  subst hk
  exact ⟨cs, hb⟩
theorem ms_push {W W' : World} {B k : Nat} {F : List Int → Prop} {v v' x : Value} {xs : List Value} (ho : W.ownsRow B 24 1 v k xs) (hs : ∀ y ∈ xs, El W B F y) (hx : El W B F x)
    (ho' : W'.ownsRow B 24 1 v' (k + 1) (xs ++ [x])) (hg : W.grownBy W' v.ownBlock) : MS W' B F v' (k + 1) := by
  have hr : ∀ j, v.ownBlock = some j → ∃ t cs, Blk W j t cs ∧ t ≠ 5 := fun j hj => by
    obtain ⟨cs, hb⟩ := own_blk_t ho j hj
    exact ⟨_, cs, hb, by decide⟩
  refine ⟨_, ho', fun y hy => ?_⟩
  rcases List.mem_append.1 hy with hy | hy
  · exact (hs y hy).grown hg hr
  · obtain rfl : y = x := by simpa using hy
    exact hx.grown hg hr
theorem reads_litP (w : World) (t : TypeId) (l : List Int) : Reads (w.alloc (.cells (bs l).toArray t)) (w.heap.size + 1) 1 (some ⟨w.heap.size, 0, none⟩) l.length (bs l) := by
  have hl : l.length ≤ (bs l).length := by simp [bs]
  have h := (Blk.new w t (bs l)).reads 0 l.length (by omega)
  rwa [List.drop_zero, List.take_of_length_le (by simp [bs])] at h
/-- 'append(may, x)': a form more. -/
theorem wpList_push {w : World} {B k c : Nat} {F : List Int → Prop} {A : Option Addr} {x : Value} {ops : Array Oper} {rest : List Oper} {o : Oper} {a : Act} {Q : Exit → Act → World → Prop} (hgd : o.guard = none) (s y : Operand)
    (ho : o.op = .call { callee := .builtin .append, args := #[s, y], argTypes := #[82, 82] }) (W : World) (hw : w = W.alloc (.cells #[x] 24)) (gx : Nat) (hgx : gx = W.heap.size) (hs : a.eval s = .slice A k c) (hx : a.eval y = .slice (some ⟨gx, 0, none⟩) 1 1)
    (hm : MS W B F (.slice A k c) k) (he : El W B F x) (hB : B ≤ W.heap.size) (hk : k ≤ 100)
    (h : ∀ A' c' w', Hid (MS w' B F (.slice A' (k + 1) c') (k + 1)) → Hid (w.grownBy w' (Value.slice A k c).ownBlock ∧ ∀ j, (Value.slice A k c).ownBlock = some j → B ≤ j ∧ ∃ cs, Blk w j 24 cs) → wpList Tryd.prog ops Q rest (a.put o.dst (.slice A' (k + 1) c')) w') : wpList Tryd.prog ops Q (o :: rest) a w := by
  subst hw
  subst hgx
  obtain ⟨i0, hi0, hz0, hz1, hz2⟩ := info_parts infoBytes
  obtain ⟨xs, hown, hxs⟩ := hm
  have hone : x.oneCell' = true := by
    obtain ⟨g, cs, e, rfl, _⟩ := he
    rfl
  have hb : Below W.heap.size W (W.alloc (.cells #[x] 24)) := (Below.refl _ W).alloc (Nat.le_refl _) _
  refine wpList_append_any _ hgd s y _ ho B 24 i0 _ 1 24 Tryd.underlying82 hi0 hz0 hz1 hz2 rfl (by omega) _ k xs hs (hown.alloc _) (W.heap.size + 1) _ 1 1 [x] hx (reads_oneP W x _) (by simpa using hone) (by simp only [maxLen]; omega) (by omega) (by simp; omega) ?_
  intro v1 w1 hown1 hg1 hat1
  obtain ⟨A', c', rfl⟩ := own_formP hown1
  exact h A' c' w1 (ms_push (hown.alloc _) (fun z hz => (hxs z hz).below hb) (he.below hb) hown1 hg1) ⟨hg1, fun j hj => ⟨(hown.lt j hj).1, (own_blk_t hown j hj).imp fun _ h => h.alloc _⟩⟩
theorem big_calls2 (W : World) (u : Int) (n : Nat) (h0 : 0 ≤ u) (h1 : u ≤ 18446744073709551615) (hn : n ≤ 8) :
    Calls Tryd.prog 34 #[.int .u64 u, .int .i64 n] W fun e W' => ∃ A c, e = .returned (.slice A n c) ∧ W'.ownsRow W.heap.size 5 1 (.slice A n c) n (bs (be u n)) ∧ Below W.heap.size W W' := by
  have h := big_calls W u n h0 h1 hn
  unfold Own8 at h
  rw [be_length] at h
  exact h
/-- 'append([]byte{x}, y...)'. -/
theorem wpList_lit {w : World} {B g m : Nat} {A : Option Addr} {x : Int} {l : List Int} {c : Nat} {ops : Array Oper} {rest : List Oper} {o : Oper} {a : Act} {Q : Exit → Act → World → Prop} (hgd : o.guard = none) (s y : Operand)
    (ho : o.op = .call { callee := .builtin .append, args := #[s, y], argTypes := #[24, 24] }) (hs : a.eval s = .slice (some ⟨g, 0, none⟩) 1 1) (hx : a.eval y = .slice A m c)
    (hb : Blk w g 5 [.int .u8 x]) (hB : B ≤ g) (hr : Reads w w.heap.size 1 A m (bs l)) (hl : l.length = m) (hn : m ≤ 100)
    (h : ∀ A' c' N w', Hid (N = (x :: l).length) → Hid (w'.ownsRow B 5 1 (.slice A' N c') N (bs (x :: l))) → Hid (w.grownBy w' (some g)) → wpList Tryd.prog ops Q rest (a.put o.dst (.slice A' N c')) w') : wpList Tryd.prog ops Q (o :: rest) a w := by
  subst hl
  obtain ⟨i0, hi0, hz0, hz1, hz2⟩ := info_parts infoU8
  have hlt := hb.lt
  refine wpList_append_any _ hgd s y _ ho B 5 i0 _ 1 1 Tryd.underlying24 hi0 hz0 hz1 hz2 rfl (by omega) _ 1 [.int .u8 x] hs (blk_own (n := 1) hb hB (by simp) (by simp [maxLen])) w.heap.size A l.length c (bs l) hx hr (bs_one l) (by simp only [maxLen]; omega) (by omega) (by omega) ?_
  intro v1 w1 hown1 hg1 hat1
  obtain ⟨A', c', rfl⟩ := own_formP hown1
  exact h A' c' _ w1 (show 1 + l.length = (x :: l).length by rw [List.length_cons]; omega) hown1 hg1

set_option maxHeartbeats 8000000 in
set_option maxRecDepth 100000 in
theorem putInt_neg (w : World) (gf : Nat) (st n : Int) (sh : Bool) (hb : Blk w gf 34 [.int .u64 st, .bool sh]) (h0 : -9223372036854775808 ≤ n) (h1 : n < 0) :
    Calls Tryd.prog 21 #[.pointer (some ⟨gf, 0, none⟩), .int .u64 (n + 18446744073709551616), .bool true] w (PutH gf sh (IntF n) w) := by
  have hgf := hb.lt
  have hw64 : wrap64 (n + 18446744073709551616) = n := by unfold wrap64; omega
  have hw8 : IntKind.u8.wrap n = n % 256 := by rw [IntKind.wrap_u8]
  obtain ⟨U, hU⟩ : ∃ U, U = n + 18446744073709551616 := ⟨_, rfl⟩
  have hbe : ∀ k, k ≤ 8 → be U k = be n k := fun k hk => by
    have := be_mod n k hk
    rw [← this]
    congr 1
    omega
  have hU0 : 0 ≤ U := by omega
  have hU1 : U ≤ 18446744073709551615 := by omega
  rw [← hU] at hw64 ⊢
  have HB := Lib.hid hb
  have HBE := Lib.hid hbe
  have HU := Lib.hid hU
  clear hb hbe hU
  by_cases h32 : -32 ≤ n
  · go_enter Tryd.func21, Tryd.ntmps21
    go_wp2_with (
      (at_builtin)
      go_must (
        (refine wpList_push (B := w.heap.size) (F := IntF n) rfl (.tmp 25) (.tmp 29) rfl (w.alloc (.cells #[.int .u8 (n % 256)] 5)) rfl _ (by simp) rfl rfl (MS.nil _ _ _) ?_ (by simp) (by omega) ?_
         · refine ⟨w.heap.size, [.int .u8 (n % 256)], [n + 256], rfl, Blk.new w _ [_], by simp, by simp [maxLen], ?_, .inr (.inl ⟨h32, h1, rfl⟩), Nat.le_refl _⟩
           simp [bs]
           omega
         intro A1 c1 w2 HM2 hg2
         have hbel2 : Below w.heap.size w w2 := (((Below.refl _ w).alloc (Nat.le_refl _) _).alloc (by simp) _).grown hg2.out.1 (by simp; omega) (fun j hj => (hg2.out.2 j hj).1)
         have HBEL2 := Lib.hid hbel2
         clear hbel2 hg2)))
    go_loopw [8, 33] (fun v i wr => ∃ (k N c : Nat) (A : Option Addr), k ≤ 4 ∧ i = .int .i64 k ∧ v = .slice A N c ∧ N ≤ k + 6 ∧ (k = 4 → 0 < N) ∧ Hid (MS wr w.heap.size (IntF n) (.slice A N c) N) ∧ Hid (Below w.heap.size w wr) ∧ Hid (Blk wr w2.heap.size 3 [.int .i64 1, .int .i64 2, .int .i64 4, .int .i64 8])) (fun _ i _ => 4 - (intOf i).toNat)
    case atStart => exact ⟨0, 1, c1, A1, by omega, rfl, rfl, by omega, fun h => by omega, HM2.out.below ((Below.refl _ w2).alloc (Nat.le_refl _) _), HBEL2.out.alloc (HBEL2.out.size) _, Blk.new w2 _ [_, _, _, _]⟩
    case round =>
      obtain ⟨k, N, c, A, hk, rfl, rfl, hNk, hN4, HM, HBEL, HL⟩ := hrel
      have hwz : w.heap.size ≤ wr.heap.size := HBEL.out.size
      have l0 := HL.out.cell 0
      have l1 := HL.out.cell 1
      have l2 := HL.out.cell 2
      have l3 := HL.out.cell 3
      simp only [List.getElem?_cons_zero, List.getElem?_cons_succ] at l0 l1 l2 l3
      by_cases hlt : k < 4
      · have hkc : k = 0 ∨ k = 1 ∨ k = 2 ∨ k = 3 := by omega
        rcases hkc with rfl | rfl | rfl | rfl
        · by_cases hcd : -128 ≤ n
          · skip
            go_wp2_with (first
              | (go_at_call 34
                 go_must (
                   (refine (big_calls2 _ U 1 (by omega) (by omega) (by omega)).mono ?_)
                   rintro e w3 ⟨A3, c3, rfl, hown3, hbel3⟩
                   have hlit : Blk w3 wr.heap.size 5 [.int .u8 208] := (Blk.new wr _ [_]).below hbel3 (by simp)
                   have hb3 : Below wr.heap.size wr w3 := ((Below.refl _ wr).alloc (Nat.le_refl _) _).trans (hbel3.mono (by simp))
                   rw [HBE.out 1 (by omega)] at hown3
                   have HLIT := Lib.hid hlit
                   have HB3 := Lib.hid hb3
                   have HOWN3 := Lib.hid hown3
                   clear hlit hb3 hown3 hbel3))
              | ((at_builtin)
                 go_must (first
                   | ((refine wpList_push (B := w.heap.size) (F := IntF n) rfl (.tmp 44) (.tmp 53) rfl w4 rfl _ rfl rfl rfl HM4.out HE4.out (by omega) (by omega) ?_)
                      intro A5 c5 w5 HM5 hg5
                      have hbel5 : Below w.heap.size w w5 := ((HBEL.out.trans (HB4.out.mono hwz)).alloc (by omega) _).grown hg5.out.1 (by simp; omega) (fun j hj => (hg5.out.2 j hj).1)
                      have hl5 : Blk w5 w2.heap.size 3 _ := ((HL.out.below HB4.out HL.out.lt).alloc _).grown hg5.out.1 (fun e => by obtain ⟨_, cs, hc⟩ := hg5.out.2 _ e.symm; exact hc.ne_ ((HL.out.below HB4.out HL.out.lt).alloc _) (by decide) rfl)
                      have HBEL5 := Lib.hid hbel5
                      have HL5 := Lib.hid hl5
                      clear hbel5 hl5 hg5)
                   | ((refine wpList_lit (B := w.heap.size) (x := 208) (l := be n 1) rfl (.tmp 48) (.tmp 51) rfl rfl rfl HLIT.out hwz (Reads.of_own HOWN3.out) (be_length _ _) (by omega) ?_)
                      intro A4 c4 N4 w4 HN4 HO4 HG4
                      have hb4 : Below wr.heap.size wr w4 := HB3.out.grown HG4.out HB3.out.size (fun j hj => by injection hj with hj; omega)
                      have he4 : El w4 w.heap.size (IntF n) (.slice A4 N4 c4) := by
                        have hn4 := HN4.out
                        subst hn4
                        exact El.own HO4.out (by simp) (.inr (.inr (.inr ⟨(208, 1), by simp, by simp only [Nat.reduceMul, Nat.reduceSub, Int.reducePow]; omega, by simp only [Nat.reduceMul, Nat.reduceSub, Int.reducePow]; omega, rfl⟩)))
                      have hm4 := HM.out.below hb4
                      have hwz4 : w.heap.size ≤ w4.heap.size := Nat.le_trans hwz hb4.size
                      have HB4 := Lib.hid hb4
                      have HE4 := Lib.hid he4
                      have HM4 := Lib.hid hm4
                      clear hb4 he4 hm4 HG4))))
            go_roundw
            case rel => exact ⟨1, N + 1, c5, A5, by omega, by first | rfl | go_num, rfl, by omega, fun _ => by omega, HM5, HBEL5, HL5⟩
            case measure => simp [intOf]
          · go_wp2
            go_roundw
            case rel => exact ⟨1, N, c, A, by omega, by first | rfl | go_num, rfl, by omega, fun h => by omega, HM, HBEL, HL⟩
            case measure => simp [intOf]
        · by_cases hcd : -32768 ≤ n
          · skip
            go_wp2_with (first
              | (go_at_call 34
                 go_must (
                   (refine (big_calls2 _ U 2 (by omega) (by omega) (by omega)).mono ?_)
                   rintro e w3 ⟨A3, c3, rfl, hown3, hbel3⟩
                   have hlit : Blk w3 wr.heap.size 5 [.int .u8 209] := (Blk.new wr _ [_]).below hbel3 (by simp)
                   have hb3 : Below wr.heap.size wr w3 := ((Below.refl _ wr).alloc (Nat.le_refl _) _).trans (hbel3.mono (by simp))
                   rw [HBE.out 2 (by omega)] at hown3
                   have HLIT := Lib.hid hlit
                   have HB3 := Lib.hid hb3
                   have HOWN3 := Lib.hid hown3
                   clear hlit hb3 hown3 hbel3))
              | ((at_builtin)
                 go_must (first
                   | ((refine wpList_push (B := w.heap.size) (F := IntF n) rfl (.tmp 44) (.tmp 53) rfl w4 rfl _ rfl rfl rfl HM4.out HE4.out (by omega) (by omega) ?_)
                      intro A5 c5 w5 HM5 hg5
                      have hbel5 : Below w.heap.size w w5 := ((HBEL.out.trans (HB4.out.mono hwz)).alloc (by omega) _).grown hg5.out.1 (by simp; omega) (fun j hj => (hg5.out.2 j hj).1)
                      have hl5 : Blk w5 w2.heap.size 3 _ := ((HL.out.below HB4.out HL.out.lt).alloc _).grown hg5.out.1 (fun e => by obtain ⟨_, cs, hc⟩ := hg5.out.2 _ e.symm; exact hc.ne_ ((HL.out.below HB4.out HL.out.lt).alloc _) (by decide) rfl)
                      have HBEL5 := Lib.hid hbel5
                      have HL5 := Lib.hid hl5
                      clear hbel5 hl5 hg5)
                   | ((refine wpList_lit (B := w.heap.size) (x := 209) (l := be n 2) rfl (.tmp 48) (.tmp 51) rfl rfl rfl HLIT.out hwz (Reads.of_own HOWN3.out) (be_length _ _) (by omega) ?_)
                      intro A4 c4 N4 w4 HN4 HO4 HG4
                      have hb4 : Below wr.heap.size wr w4 := HB3.out.grown HG4.out HB3.out.size (fun j hj => by injection hj with hj; omega)
                      have he4 : El w4 w.heap.size (IntF n) (.slice A4 N4 c4) := by
                        have hn4 := HN4.out
                        subst hn4
                        exact El.own HO4.out (by simp) (.inr (.inr (.inr ⟨(209, 2), by simp, by simp only [Nat.reduceMul, Nat.reduceSub, Int.reducePow]; omega, by simp only [Nat.reduceMul, Nat.reduceSub, Int.reducePow]; omega, rfl⟩)))
                      have hm4 := HM.out.below hb4
                      have hwz4 : w.heap.size ≤ w4.heap.size := Nat.le_trans hwz hb4.size
                      have HB4 := Lib.hid hb4
                      have HE4 := Lib.hid he4
                      have HM4 := Lib.hid hm4
                      clear hb4 he4 hm4 HG4))))
            go_roundw
            case rel => exact ⟨2, N + 1, c5, A5, by omega, by first | rfl | go_num, rfl, by omega, fun _ => by omega, HM5, HBEL5, HL5⟩
            case measure => simp [intOf]
          · go_wp2
            go_roundw
            case rel => exact ⟨2, N, c, A, by omega, by first | rfl | go_num, rfl, by omega, fun h => by omega, HM, HBEL, HL⟩
            case measure => simp [intOf]
        · by_cases hcd : -2147483648 ≤ n
          · skip
            go_wp2_with (first
              | (go_at_call 34
                 go_must (
                   (refine (big_calls2 _ U 4 (by omega) (by omega) (by omega)).mono ?_)
                   rintro e w3 ⟨A3, c3, rfl, hown3, hbel3⟩
                   have hlit : Blk w3 wr.heap.size 5 [.int .u8 210] := (Blk.new wr _ [_]).below hbel3 (by simp)
                   have hb3 : Below wr.heap.size wr w3 := ((Below.refl _ wr).alloc (Nat.le_refl _) _).trans (hbel3.mono (by simp))
                   rw [HBE.out 4 (by omega)] at hown3
                   have HLIT := Lib.hid hlit
                   have HB3 := Lib.hid hb3
                   have HOWN3 := Lib.hid hown3
                   clear hlit hb3 hown3 hbel3))
              | ((at_builtin)
                 go_must (first
                   | ((refine wpList_push (B := w.heap.size) (F := IntF n) rfl (.tmp 44) (.tmp 53) rfl w4 rfl _ rfl rfl rfl HM4.out HE4.out (by omega) (by omega) ?_)
                      intro A5 c5 w5 HM5 hg5
                      have hbel5 : Below w.heap.size w w5 := ((HBEL.out.trans (HB4.out.mono hwz)).alloc (by omega) _).grown hg5.out.1 (by simp; omega) (fun j hj => (hg5.out.2 j hj).1)
                      have hl5 : Blk w5 w2.heap.size 3 _ := ((HL.out.below HB4.out HL.out.lt).alloc _).grown hg5.out.1 (fun e => by obtain ⟨_, cs, hc⟩ := hg5.out.2 _ e.symm; exact hc.ne_ ((HL.out.below HB4.out HL.out.lt).alloc _) (by decide) rfl)
                      have HBEL5 := Lib.hid hbel5
                      have HL5 := Lib.hid hl5
                      clear hbel5 hl5 hg5)
                   | ((refine wpList_lit (B := w.heap.size) (x := 210) (l := be n 4) rfl (.tmp 48) (.tmp 51) rfl rfl rfl HLIT.out hwz (Reads.of_own HOWN3.out) (be_length _ _) (by omega) ?_)
                      intro A4 c4 N4 w4 HN4 HO4 HG4
                      have hb4 : Below wr.heap.size wr w4 := HB3.out.grown HG4.out HB3.out.size (fun j hj => by injection hj with hj; omega)
                      have he4 : El w4 w.heap.size (IntF n) (.slice A4 N4 c4) := by
                        have hn4 := HN4.out
                        subst hn4
                        exact El.own HO4.out (by simp) (.inr (.inr (.inr ⟨(210, 4), by simp, by simp only [Nat.reduceMul, Nat.reduceSub, Int.reducePow]; omega, by simp only [Nat.reduceMul, Nat.reduceSub, Int.reducePow]; omega, rfl⟩)))
                      have hm4 := HM.out.below hb4
                      have hwz4 : w.heap.size ≤ w4.heap.size := Nat.le_trans hwz hb4.size
                      have HB4 := Lib.hid hb4
                      have HE4 := Lib.hid he4
                      have HM4 := Lib.hid hm4
                      clear hb4 he4 hm4 HG4))))
            go_roundw
            case rel => exact ⟨3, N + 1, c5, A5, by omega, by first | rfl | go_num, rfl, by omega, fun _ => by omega, HM5, HBEL5, HL5⟩
            case measure => simp [intOf]
          · go_wp2
            go_roundw
            case rel => exact ⟨3, N, c, A, by omega, by first | rfl | go_num, rfl, by omega, fun h => by omega, HM, HBEL, HL⟩
            case measure => simp [intOf]
        · have hcd : -9223372036854775808 ≤ n := by omega
          go_wp2_with (first
            | (go_at_call 34
               go_must (
                 (refine (big_calls2 _ U 8 (by omega) (by omega) (by omega)).mono ?_)
                 rintro e w3 ⟨A3, c3, rfl, hown3, hbel3⟩
                 have hlit : Blk w3 wr.heap.size 5 [.int .u8 211] := (Blk.new wr _ [_]).below hbel3 (by simp)
                 have hb3 : Below wr.heap.size wr w3 := ((Below.refl _ wr).alloc (Nat.le_refl _) _).trans (hbel3.mono (by simp))
                 rw [HBE.out 8 (by omega)] at hown3
                 have HLIT := Lib.hid hlit
                 have HB3 := Lib.hid hb3
                 have HOWN3 := Lib.hid hown3
                 clear hlit hb3 hown3 hbel3))
            | ((at_builtin)
               go_must (first
                 | ((refine wpList_push (B := w.heap.size) (F := IntF n) rfl (.tmp 44) (.tmp 53) rfl w4 rfl _ rfl rfl rfl HM4.out HE4.out (by omega) (by omega) ?_)
                    intro A5 c5 w5 HM5 hg5
                    have hbel5 : Below w.heap.size w w5 := ((HBEL.out.trans (HB4.out.mono hwz)).alloc (by omega) _).grown hg5.out.1 (by simp; omega) (fun j hj => (hg5.out.2 j hj).1)
                    have hl5 : Blk w5 w2.heap.size 3 _ := ((HL.out.below HB4.out HL.out.lt).alloc _).grown hg5.out.1 (fun e => by obtain ⟨_, cs, hc⟩ := hg5.out.2 _ e.symm; exact hc.ne_ ((HL.out.below HB4.out HL.out.lt).alloc _) (by decide) rfl)
                    have HBEL5 := Lib.hid hbel5
                    have HL5 := Lib.hid hl5
                    clear hbel5 hl5 hg5)
                 | ((refine wpList_lit (B := w.heap.size) (x := 211) (l := be n 8) rfl (.tmp 48) (.tmp 51) rfl rfl rfl HLIT.out hwz (Reads.of_own HOWN3.out) (be_length _ _) (by omega) ?_)
                    intro A4 c4 N4 w4 HN4 HO4 HG4
                    have hb4 : Below wr.heap.size wr w4 := HB3.out.grown HG4.out HB3.out.size (fun j hj => by injection hj with hj; omega)
                    have he4 : El w4 w.heap.size (IntF n) (.slice A4 N4 c4) := by
                      have hn4 := HN4.out
                      subst hn4
                      exact El.own HO4.out (by simp) (.inr (.inr (.inr ⟨(211, 8), by simp, by simp only [Nat.reduceMul, Nat.reduceSub, Int.reducePow]; omega, by simp only [Nat.reduceMul, Nat.reduceSub, Int.reducePow]; omega, rfl⟩)))
                    have hm4 := HM.out.below hb4
                    have hwz4 : w.heap.size ≤ w4.heap.size := Nat.le_trans hwz hb4.size
                    have HB4 := Lib.hid hb4
                    have HE4 := Lib.hid he4
                    have HM4 := Lib.hid hm4
                    clear hb4 he4 hm4 HG4))))
          go_roundw
          case rel => exact ⟨4, N + 1, c5, A5, by omega, by first | rfl | go_num, rfl, by omega, fun _ => by omega, HM5, HBEL5, HL5⟩
          case measure => simp [intOf]
      · obtain rfl : k = 4 := by omega
        have hN := hN4 rfl
        go_wp2_with (
          (go_at_call 35)
          go_must (
            (refine (pick_calls wr gf N st sh (HB.out.below HBEL.out hgf) hN (by omega)).mono ?_)
            rintro e w4 ⟨j, st4, rfl, hj, hb4, hg4⟩
            obtain ⟨xs, hown, hxs⟩ := HM.out
            have hown4 := hown.kept hg4 (.inr (fun e => by have := (hown.lt gf e).1; omega))
            have hlen : xs.length = N := by have := hown.1; omega
            obtain ⟨g5, cs5, hv5, hb5, hB5, hn5, hm5, ht5⟩ := own_blk hown4 (.inl hN)
            have hxj := hxs xs[j] (List.getElem_mem (by omega))
            have hcell := hb5.cell j
            have hxe : cs5[j]? = some xs[j] := by
              have h1 : (cs5.take N)[j]? = xs[j]? := by rw [ht5]
              rw [List.getElem?_take, if_pos hj, List.getElem?_eq_getElem (show j < xs.length by omega)] at h1
              exact h1
            rw [hxe] at hcell
            have hel4 := hxj.grown hg4 (fun k hk => by injection hk with hk; subst hk; exact ⟨_, _, HB.out.below HBEL.out hgf, by decide⟩)
            generalize xs[j] = xv at *
            obtain ⟨g6, cs6, e6, rfl, hb6, hn6, hm6, ht6, hf6, hB6⟩ := hel4
            injection hv5 with ev1 ev2 ev3
            subst ev1
            subst ev3
            have HB4 := Lib.hid hb4
            have HG4 := Lib.hid hg4
            have HB6 := Lib.hid hb6
            have HF6 := Lib.hid hf6
            have HT6 := Lib.hid ht6
            clear hown hxs hown4 hb5 ht5 hxj hxe hb4 hg4 hb6 hf6 ht6 hlen l0 l1 l2 l3))
        go_ret
        exact ⟨e6, _, _, st4, rfl, HF6.out, by rw [← HT6.out]; exact blk_own HB6.out hB6 hn6 hm6, HB4.out, grownP_trans (belowP_grown HBEL.out _) HG4.out⟩
  · have h32d : decide (-32 ≤ n) = false := decide_eq_false h32
    go_enter Tryd.func21, Tryd.ntmps21
    go_wp2
    go_loopw [8, 33] (fun v i wr => ∃ (k N c : Nat) (A : Option Addr), k ≤ 4 ∧ i = .int .i64 k ∧ v = .slice A N c ∧ N ≤ k + 6 ∧ (k = 4 → 0 < N) ∧ Hid (MS wr w.heap.size (IntF n) (.slice A N c) N) ∧ Hid (Below w.heap.size w wr) ∧ Hid (Blk wr w.heap.size 3 [.int .i64 1, .int .i64 2, .int .i64 4, .int .i64 8])) (fun _ i _ => 4 - (intOf i).toNat)
    case atStart => exact ⟨0, 0, 0, none, by omega, rfl, rfl, by omega, fun h => by omega, (MS.nil _ _ _), (Below.refl _ w).alloc (Nat.le_refl _) _, Blk.new w _ [_, _, _, _]⟩
    case round =>
      obtain ⟨k, N, c, A, hk, rfl, rfl, hNk, hN4, HM, HBEL, HL⟩ := hrel
      have hwz : w.heap.size ≤ wr.heap.size := HBEL.out.size
      have l0 := HL.out.cell 0
      have l1 := HL.out.cell 1
      have l2 := HL.out.cell 2
      have l3 := HL.out.cell 3
      simp only [List.getElem?_cons_zero, List.getElem?_cons_succ] at l0 l1 l2 l3
      by_cases hlt : k < 4
      · have hkc : k = 0 ∨ k = 1 ∨ k = 2 ∨ k = 3 := by omega
        rcases hkc with rfl | rfl | rfl | rfl
        · by_cases hcd : -128 ≤ n
          · skip
            go_wp2_with (first
              | (go_at_call 34
                 go_must (
                   (refine (big_calls2 _ U 1 (by omega) (by omega) (by omega)).mono ?_)
                   rintro e w3 ⟨A3, c3, rfl, hown3, hbel3⟩
                   have hlit : Blk w3 wr.heap.size 5 [.int .u8 208] := (Blk.new wr _ [_]).below hbel3 (by simp)
                   have hb3 : Below wr.heap.size wr w3 := ((Below.refl _ wr).alloc (Nat.le_refl _) _).trans (hbel3.mono (by simp))
                   rw [HBE.out 1 (by omega)] at hown3
                   have HLIT := Lib.hid hlit
                   have HB3 := Lib.hid hb3
                   have HOWN3 := Lib.hid hown3
                   clear hlit hb3 hown3 hbel3))
              | ((at_builtin)
                 go_must (first
                   | ((refine wpList_push (B := w.heap.size) (F := IntF n) rfl (.tmp 44) (.tmp 53) rfl w4 rfl _ rfl rfl rfl HM4.out HE4.out (by omega) (by omega) ?_)
                      intro A5 c5 w5 HM5 hg5
                      have hbel5 : Below w.heap.size w w5 := ((HBEL.out.trans (HB4.out.mono hwz)).alloc (by omega) _).grown hg5.out.1 (by simp; omega) (fun j hj => (hg5.out.2 j hj).1)
                      have hl5 : Blk w5 w.heap.size 3 _ := ((HL.out.below HB4.out HL.out.lt).alloc _).grown hg5.out.1 (fun e => by obtain ⟨_, cs, hc⟩ := hg5.out.2 _ e.symm; exact hc.ne_ ((HL.out.below HB4.out HL.out.lt).alloc _) (by decide) rfl)
                      have HBEL5 := Lib.hid hbel5
                      have HL5 := Lib.hid hl5
                      clear hbel5 hl5 hg5)
                   | ((refine wpList_lit (B := w.heap.size) (x := 208) (l := be n 1) rfl (.tmp 48) (.tmp 51) rfl rfl rfl HLIT.out hwz (Reads.of_own HOWN3.out) (be_length _ _) (by omega) ?_)
                      intro A4 c4 N4 w4 HN4 HO4 HG4
                      have hb4 : Below wr.heap.size wr w4 := HB3.out.grown HG4.out HB3.out.size (fun j hj => by injection hj with hj; omega)
                      have he4 : El w4 w.heap.size (IntF n) (.slice A4 N4 c4) := by
                        have hn4 := HN4.out
                        subst hn4
                        exact El.own HO4.out (by simp) (.inr (.inr (.inr ⟨(208, 1), by simp, by simp only [Nat.reduceMul, Nat.reduceSub, Int.reducePow]; omega, by simp only [Nat.reduceMul, Nat.reduceSub, Int.reducePow]; omega, rfl⟩)))
                      have hm4 := HM.out.below hb4
                      have hwz4 : w.heap.size ≤ w4.heap.size := Nat.le_trans hwz hb4.size
                      have HB4 := Lib.hid hb4
                      have HE4 := Lib.hid he4
                      have HM4 := Lib.hid hm4
                      clear hb4 he4 hm4 HG4))))
            go_roundw
            case rel => exact ⟨1, N + 1, c5, A5, by omega, by first | rfl | go_num, rfl, by omega, fun _ => by omega, HM5, HBEL5, HL5⟩
            case measure => simp [intOf]
          · go_wp2
            go_roundw
            case rel => exact ⟨1, N, c, A, by omega, by first | rfl | go_num, rfl, by omega, fun h => by omega, HM, HBEL, HL⟩
            case measure => simp [intOf]
        · by_cases hcd : -32768 ≤ n
          · skip
            go_wp2_with (first
              | (go_at_call 34
                 go_must (
                   (refine (big_calls2 _ U 2 (by omega) (by omega) (by omega)).mono ?_)
                   rintro e w3 ⟨A3, c3, rfl, hown3, hbel3⟩
                   have hlit : Blk w3 wr.heap.size 5 [.int .u8 209] := (Blk.new wr _ [_]).below hbel3 (by simp)
                   have hb3 : Below wr.heap.size wr w3 := ((Below.refl _ wr).alloc (Nat.le_refl _) _).trans (hbel3.mono (by simp))
                   rw [HBE.out 2 (by omega)] at hown3
                   have HLIT := Lib.hid hlit
                   have HB3 := Lib.hid hb3
                   have HOWN3 := Lib.hid hown3
                   clear hlit hb3 hown3 hbel3))
              | ((at_builtin)
                 go_must (first
                   | ((refine wpList_push (B := w.heap.size) (F := IntF n) rfl (.tmp 44) (.tmp 53) rfl w4 rfl _ rfl rfl rfl HM4.out HE4.out (by omega) (by omega) ?_)
                      intro A5 c5 w5 HM5 hg5
                      have hbel5 : Below w.heap.size w w5 := ((HBEL.out.trans (HB4.out.mono hwz)).alloc (by omega) _).grown hg5.out.1 (by simp; omega) (fun j hj => (hg5.out.2 j hj).1)
                      have hl5 : Blk w5 w.heap.size 3 _ := ((HL.out.below HB4.out HL.out.lt).alloc _).grown hg5.out.1 (fun e => by obtain ⟨_, cs, hc⟩ := hg5.out.2 _ e.symm; exact hc.ne_ ((HL.out.below HB4.out HL.out.lt).alloc _) (by decide) rfl)
                      have HBEL5 := Lib.hid hbel5
                      have HL5 := Lib.hid hl5
                      clear hbel5 hl5 hg5)
                   | ((refine wpList_lit (B := w.heap.size) (x := 209) (l := be n 2) rfl (.tmp 48) (.tmp 51) rfl rfl rfl HLIT.out hwz (Reads.of_own HOWN3.out) (be_length _ _) (by omega) ?_)
                      intro A4 c4 N4 w4 HN4 HO4 HG4
                      have hb4 : Below wr.heap.size wr w4 := HB3.out.grown HG4.out HB3.out.size (fun j hj => by injection hj with hj; omega)
                      have he4 : El w4 w.heap.size (IntF n) (.slice A4 N4 c4) := by
                        have hn4 := HN4.out
                        subst hn4
                        exact El.own HO4.out (by simp) (.inr (.inr (.inr ⟨(209, 2), by simp, by simp only [Nat.reduceMul, Nat.reduceSub, Int.reducePow]; omega, by simp only [Nat.reduceMul, Nat.reduceSub, Int.reducePow]; omega, rfl⟩)))
                      have hm4 := HM.out.below hb4
                      have hwz4 : w.heap.size ≤ w4.heap.size := Nat.le_trans hwz hb4.size
                      have HB4 := Lib.hid hb4
                      have HE4 := Lib.hid he4
                      have HM4 := Lib.hid hm4
                      clear hb4 he4 hm4 HG4))))
            go_roundw
            case rel => exact ⟨2, N + 1, c5, A5, by omega, by first | rfl | go_num, rfl, by omega, fun _ => by omega, HM5, HBEL5, HL5⟩
            case measure => simp [intOf]
          · go_wp2
            go_roundw
            case rel => exact ⟨2, N, c, A, by omega, by first | rfl | go_num, rfl, by omega, fun h => by omega, HM, HBEL, HL⟩
            case measure => simp [intOf]
        · by_cases hcd : -2147483648 ≤ n
          · skip
            go_wp2_with (first
              | (go_at_call 34
                 go_must (
                   (refine (big_calls2 _ U 4 (by omega) (by omega) (by omega)).mono ?_)
                   rintro e w3 ⟨A3, c3, rfl, hown3, hbel3⟩
                   have hlit : Blk w3 wr.heap.size 5 [.int .u8 210] := (Blk.new wr _ [_]).below hbel3 (by simp)
                   have hb3 : Below wr.heap.size wr w3 := ((Below.refl _ wr).alloc (Nat.le_refl _) _).trans (hbel3.mono (by simp))
                   rw [HBE.out 4 (by omega)] at hown3
                   have HLIT := Lib.hid hlit
                   have HB3 := Lib.hid hb3
                   have HOWN3 := Lib.hid hown3
                   clear hlit hb3 hown3 hbel3))
              | ((at_builtin)
                 go_must (first
                   | ((refine wpList_push (B := w.heap.size) (F := IntF n) rfl (.tmp 44) (.tmp 53) rfl w4 rfl _ rfl rfl rfl HM4.out HE4.out (by omega) (by omega) ?_)
                      intro A5 c5 w5 HM5 hg5
                      have hbel5 : Below w.heap.size w w5 := ((HBEL.out.trans (HB4.out.mono hwz)).alloc (by omega) _).grown hg5.out.1 (by simp; omega) (fun j hj => (hg5.out.2 j hj).1)
                      have hl5 : Blk w5 w.heap.size 3 _ := ((HL.out.below HB4.out HL.out.lt).alloc _).grown hg5.out.1 (fun e => by obtain ⟨_, cs, hc⟩ := hg5.out.2 _ e.symm; exact hc.ne_ ((HL.out.below HB4.out HL.out.lt).alloc _) (by decide) rfl)
                      have HBEL5 := Lib.hid hbel5
                      have HL5 := Lib.hid hl5
                      clear hbel5 hl5 hg5)
                   | ((refine wpList_lit (B := w.heap.size) (x := 210) (l := be n 4) rfl (.tmp 48) (.tmp 51) rfl rfl rfl HLIT.out hwz (Reads.of_own HOWN3.out) (be_length _ _) (by omega) ?_)
                      intro A4 c4 N4 w4 HN4 HO4 HG4
                      have hb4 : Below wr.heap.size wr w4 := HB3.out.grown HG4.out HB3.out.size (fun j hj => by injection hj with hj; omega)
                      have he4 : El w4 w.heap.size (IntF n) (.slice A4 N4 c4) := by
                        have hn4 := HN4.out
                        subst hn4
                        exact El.own HO4.out (by simp) (.inr (.inr (.inr ⟨(210, 4), by simp, by simp only [Nat.reduceMul, Nat.reduceSub, Int.reducePow]; omega, by simp only [Nat.reduceMul, Nat.reduceSub, Int.reducePow]; omega, rfl⟩)))
                      have hm4 := HM.out.below hb4
                      have hwz4 : w.heap.size ≤ w4.heap.size := Nat.le_trans hwz hb4.size
                      have HB4 := Lib.hid hb4
                      have HE4 := Lib.hid he4
                      have HM4 := Lib.hid hm4
                      clear hb4 he4 hm4 HG4))))
            go_roundw
            case rel => exact ⟨3, N + 1, c5, A5, by omega, by first | rfl | go_num, rfl, by omega, fun _ => by omega, HM5, HBEL5, HL5⟩
            case measure => simp [intOf]
          · go_wp2
            go_roundw
            case rel => exact ⟨3, N, c, A, by omega, by first | rfl | go_num, rfl, by omega, fun h => by omega, HM, HBEL, HL⟩
            case measure => simp [intOf]
        · have hcd : -9223372036854775808 ≤ n := by omega
          go_wp2_with (first
            | (go_at_call 34
               go_must (
                 (refine (big_calls2 _ U 8 (by omega) (by omega) (by omega)).mono ?_)
                 rintro e w3 ⟨A3, c3, rfl, hown3, hbel3⟩
                 have hlit : Blk w3 wr.heap.size 5 [.int .u8 211] := (Blk.new wr _ [_]).below hbel3 (by simp)
                 have hb3 : Below wr.heap.size wr w3 := ((Below.refl _ wr).alloc (Nat.le_refl _) _).trans (hbel3.mono (by simp))
                 rw [HBE.out 8 (by omega)] at hown3
                 have HLIT := Lib.hid hlit
                 have HB3 := Lib.hid hb3
                 have HOWN3 := Lib.hid hown3
                 clear hlit hb3 hown3 hbel3))
            | ((at_builtin)
               go_must (first
                 | ((refine wpList_push (B := w.heap.size) (F := IntF n) rfl (.tmp 44) (.tmp 53) rfl w4 rfl _ rfl rfl rfl HM4.out HE4.out (by omega) (by omega) ?_)
                    intro A5 c5 w5 HM5 hg5
                    have hbel5 : Below w.heap.size w w5 := ((HBEL.out.trans (HB4.out.mono hwz)).alloc (by omega) _).grown hg5.out.1 (by simp; omega) (fun j hj => (hg5.out.2 j hj).1)
                    have hl5 : Blk w5 w.heap.size 3 _ := ((HL.out.below HB4.out HL.out.lt).alloc _).grown hg5.out.1 (fun e => by obtain ⟨_, cs, hc⟩ := hg5.out.2 _ e.symm; exact hc.ne_ ((HL.out.below HB4.out HL.out.lt).alloc _) (by decide) rfl)
                    have HBEL5 := Lib.hid hbel5
                    have HL5 := Lib.hid hl5
                    clear hbel5 hl5 hg5)
                 | ((refine wpList_lit (B := w.heap.size) (x := 211) (l := be n 8) rfl (.tmp 48) (.tmp 51) rfl rfl rfl HLIT.out hwz (Reads.of_own HOWN3.out) (be_length _ _) (by omega) ?_)
                    intro A4 c4 N4 w4 HN4 HO4 HG4
                    have hb4 : Below wr.heap.size wr w4 := HB3.out.grown HG4.out HB3.out.size (fun j hj => by injection hj with hj; omega)
                    have he4 : El w4 w.heap.size (IntF n) (.slice A4 N4 c4) := by
                      have hn4 := HN4.out
                      subst hn4
                      exact El.own HO4.out (by simp) (.inr (.inr (.inr ⟨(211, 8), by simp, by simp only [Nat.reduceMul, Nat.reduceSub, Int.reducePow]; omega, by simp only [Nat.reduceMul, Nat.reduceSub, Int.reducePow]; omega, rfl⟩)))
                    have hm4 := HM.out.below hb4
                    have hwz4 : w.heap.size ≤ w4.heap.size := Nat.le_trans hwz hb4.size
                    have HB4 := Lib.hid hb4
                    have HE4 := Lib.hid he4
                    have HM4 := Lib.hid hm4
                    clear hb4 he4 hm4 HG4))))
          go_roundw
          case rel => exact ⟨4, N + 1, c5, A5, by omega, by first | rfl | go_num, rfl, by omega, fun _ => by omega, HM5, HBEL5, HL5⟩
          case measure => simp [intOf]
      · obtain rfl : k = 4 := by omega
        have hN := hN4 rfl
        go_wp2_with (
          (go_at_call 35)
          go_must (
            (refine (pick_calls wr gf N st sh (HB.out.below HBEL.out hgf) hN (by omega)).mono ?_)
            rintro e w4 ⟨j, st4, rfl, hj, hb4, hg4⟩
            obtain ⟨xs, hown, hxs⟩ := HM.out
            have hown4 := hown.kept hg4 (.inr (fun e => by have := (hown.lt gf e).1; omega))
            have hlen : xs.length = N := by have := hown.1; omega
            obtain ⟨g5, cs5, hv5, hb5, hB5, hn5, hm5, ht5⟩ := own_blk hown4 (.inl hN)
            have hxj := hxs xs[j] (List.getElem_mem (by omega))
            have hcell := hb5.cell j
            have hxe : cs5[j]? = some xs[j] := by
              have h1 : (cs5.take N)[j]? = xs[j]? := by rw [ht5]
              rw [List.getElem?_take, if_pos hj, List.getElem?_eq_getElem (show j < xs.length by omega)] at h1
              exact h1
            rw [hxe] at hcell
            have hel4 := hxj.grown hg4 (fun k hk => by injection hk with hk; subst hk; exact ⟨_, _, HB.out.below HBEL.out hgf, by decide⟩)
            generalize xs[j] = xv at *
            obtain ⟨g6, cs6, e6, rfl, hb6, hn6, hm6, ht6, hf6, hB6⟩ := hel4
            injection hv5 with ev1 ev2 ev3
            subst ev1
            subst ev3
            have HB4 := Lib.hid hb4
            have HG4 := Lib.hid hg4
            have HB6 := Lib.hid hb6
            have HF6 := Lib.hid hf6
            have HT6 := Lib.hid ht6
            clear hown hxs hown4 hb5 ht5 hxj hxe hb4 hg4 hb6 hf6 ht6 hlen l0 l1 l2 l3))
        go_ret
        exact ⟨e6, _, _, st4, rfl, HF6.out, by rw [← HT6.out]; exact blk_own HB6.out hB6 hn6 hm6, HB4.out, grownP_trans (belowP_grown HBEL.out _) HG4.out⟩
end Go.Proofs.YtfhaddnacdjpoaaDoor
