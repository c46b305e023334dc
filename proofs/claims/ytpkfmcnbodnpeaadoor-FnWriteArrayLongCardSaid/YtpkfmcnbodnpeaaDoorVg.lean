/- AMQP: the heads of arrays; arrays of uints and of longs are written. PRINTED by wip/genvg.py. -/
import Derived.Test.YtpkfmcnbodnpeaaDoorVb
import Derived.Deep.LoopGhost
import Derived.LoopTactic
namespace Go.Proofs.YtpkfmcnbodnpeaaDoor
open Go.RowKit
set_option linter.unusedVariables false

/-- Numbers as cells. -/
def ns (k : IntKind) (l : List Int) : List Value := l.map (Value.int k)
theorem ns_length (k : IntKind) (l : List Int) : (ns k l).length = l.length := by simp [ns]
theorem ns_one (k : IntKind) (l : List Int) : ∀ u ∈ ns k l, u.oneCell' = true := by
  intro u hu
  simp only [ns, List.mem_map] at hu
  obtain ⟨x, _, rfl⟩ := hu
  rfl
theorem ns_at {w : World} {B n : Nat} {A : Option Addr} {k : IntKind} {l : List Int} (h : Reads w B 1 A n (ns k l)) {j : Nat} (hj : j < n) : ∃ ad, A = some ad ∧ ad.block < B ∧ w.cell? (ad.add j) = some (.int k (l.getD j 0)) := by
  obtain ⟨ad, v, hA, hb, hv, hc⟩ := h.at_ hj
  have hl : l.length = n := by have := h.1; rw [ns_length] at this; omega
  refine ⟨ad, hA, hb, hc.trans ?_⟩
  rw [← hv]
  simp [ns, List.getElem?_eq_getElem (show j < l.length by omega), List.getD_eq_getElem?_getD]
theorem ns_snoc (k : IntKind) (l : List Int) (j : Nat) (h : j < l.length) : ns k (l.take j) ++ [.int k (l.getD j 0)] = ns k (l.take (j + 1)) := by
  rw [List.take_succ_eq_append_getElem h, ns, ns, List.map_append, List.getD_eq_getElem?_getD, List.getElem?_eq_getElem h]; rfl

/-- The head of an array: n elements of so many bytes, with a code. -/
def hdr (n sz t : Nat) : List Int := if n * sz + 2 ≤ 255 then [224, ((n * sz + 2 : Nat) : Int), (n : Int), (t : Int)] else 240 :: (be ((n * sz + 5 : Nat) : Int) 4 ++ (be (n : Int) 4 ++ [(t : Int)]))

set_option maxHeartbeats 1000000 in
set_option maxRecDepth 100000 in
theorem writeArrayHeader_calls (w0 w : World) (B gb n sz t : Nat) (z1 z2 z3 : Int) (e1 : z1 = (n : Int)) (e2 : z2 = (sz : Int)) (e3 : z3 = (t : Int)) (hn : n ≤ 300) (hsz : sz ≤ 8) (hne : sz ≠ 0) (ht : t ≤ 255) (hb : Bw w0 w B gb []) :
    Calls Tryd.prog 84 #[.pointer (some ⟨gb, 0, none⟩), .int .i64 z1, .int .i64 z2, .int .u8 z3] w fun e w' => e = .returned (.tuple #[]) ∧ Bw w0 w' B gb (hdr n sz t) ∧ KeepsB w w' gb := by
  subst e1
  subst e2
  subst e3
  have HB := Lib.hid hb
  have hns : n * sz ≤ 2400 := by
    have := Nat.mul_le_mul hn hsz
    omega
  have hmul : (n : Int) * (sz : Int) = ((n * sz : Nat) : Int) := by push_cast; rfl
  obtain ⟨m, hm⟩ : ∃ m : Nat, m = n * sz := ⟨_, rfl⟩
  rw [← hm] at hmul hns
  have HM := Lib.hid hm
  clear hb hm
  by_cases h8 : m + 2 ≤ 255
  · have hh : hdr n sz t = [224, (m : Int) + 2, (n : Int), (t : Int)] := by unfold hdr; rw [← HM.out, if_pos h8]; push_cast; rfl
    rw [hh]
    clear hh
    have hd : decide ((m : Int) + 2 ≤ 255) = true := by simp; omega
    by_cases hn255 : n ≤ 255
    · have hnw : IntKind.u8.wrap (n : Int) = (n : Int) := by rw [IntKind.wrap_u8]; omega
      go_enter Tryd.func84, Tryd.ntmps84
      go_wp2_with (
        (go_at_call 79)
        go_must (
          (refine (Append_calls w0 _ B gb (some ⟨w.heap.size, 0, none⟩) 4 [] [224, (m : Int) + 2, (n : Int), (t : Int)] (by first | exact (reads_list w 5 [224, (m : Int) + 2, (n : Int), (t : Int)]).more (by simp) | skip) (HB.out.alloc _) (by simp)).mono ?_)
          rintro e w1 ⟨rfl, hb1, hk1⟩
          have HB1 := Lib.hid hb1
          have HK1 : Hid (KeepsB w w1 gb) := (KeepsB.of_below ((Below.refl _ w).alloc (Nat.le_refl _) _)).trans hk1
          clear hb1 hk1))
      go_end0
      exact ⟨rfl, HB1.out, HK1.out⟩
    · exfalso
      have : sz = 0 := by
        rcases Nat.eq_zero_or_pos sz with h | h
        · exact h
        · have := HM.out
          have h2 : n * 1 ≤ n * sz := Nat.mul_le_mul (Nat.le_refl n) h
          omega
      exact hne this
  · have hh : hdr n sz t = 240 :: (be ((m : Int) + 5) 4 ++ (be (n : Int) 4 ++ [(t : Int)])) := by unfold hdr; rw [← HM.out, if_neg h8]; push_cast; rfl
    rw [hh]
    clear hh
    have hd : decide ((m : Int) + 2 ≤ 255) = false := by simp; omega
    go_enter Tryd.func84, Tryd.ntmps84
    go_wp2_with (first
      | (go_at_call 78
         go_must (first
          | ((refine (AppendByte_calls w0 w3 B gb (t : Int) ((([] ++ [240]) ++ be ((m : Int) + 5) 4) ++ be (n : Int) 4) HB3.out (by simp [be_length])).mono ?_)
             rintro e w4 ⟨rfl, hb4, hk4⟩
             have HB4 := Lib.hid hb4
             have HK4 := Lib.hid hk4
             clear hb4 hk4)
          | ((refine (AppendByte_calls w0 w B gb 240 [] HB.out (by simp)).mono ?_)
             rintro e w1 ⟨rfl, hb1, hk1⟩
             have HB1 := Lib.hid hb1
             have HK1 := Lib.hid hk1
             clear hb1 hk1)))
      | (go_at_call 85
         go_must (first
          | ((refine (AppendUint32_calls w0 w2 B gb (n : Int) (([] ++ [240]) ++ be ((m : Int) + 5) 4) (by omega) (by omega) HB2.out (by simp [be_length])).mono ?_)
             rintro e w3 ⟨rfl, hb3, hk3⟩
             have HB3 := Lib.hid hb3
             have HK3 := Lib.hid hk3
             clear hb3 hk3)
          | ((refine (AppendUint32_calls w0 w1 B gb ((m : Int) + 5) ([] ++ [240]) (by omega) (by omega) HB1.out (by simp)).mono ?_)
             rintro e w2 ⟨rfl, hb2, hk2⟩
             have HB2 := Lib.hid hb2
             have HK2 := Lib.hid hk2
             clear hb2 hk2))))
    go_end0
    exact ⟨rfl, by have := HB4.out; simpa using this, ((HK1.out.trans HK2.out).trans HK3.out).trans HK4.out⟩

/-- A slice of numbers that lies at the head of a block of its own; or nothing. -/
def RowN (W : World) (t : TypeId) (A : Option Addr) (k : IntKind) (l : List Int) : Prop := l = [] ∨ ∃ g cs, A = some ⟨g, 0, none⟩ ∧ Blk W g t cs ∧ cs.take l.length = ns k l
theorem RowN.keep {w0 W W' : World} {t : TypeId} {A : Option Addr} {k : IntKind} {l x : List Int} {B gb : Nat} (h : RowN W t A k l) (hb : Bw w0 W B gb x) (hk : KeepsB W W' gb) (h1 : t ≠ 5) (h2 : t ≠ 74) : RowN W' t A k l := by
  rcases h with h | ⟨g, cs, hA, hblk, ht⟩
  · exact .inl h
  · obtain ⟨v, hv, _⟩ := hb
    exact .inr ⟨g, cs, hA, hk g t cs hblk h1 (hblk.ne_ hv h2), ht⟩
theorem RowN.cell {W : World} {t : TypeId} {A : Option Addr} {k : IntKind} {l : List Int} (h : RowN W t A k l) {j : Nat} (hj : j < l.length) : ∃ g, A = some ⟨g, 0, none⟩ ∧ g < W.heap.size ∧ W.cell? ⟨g, j, none⟩ = some (.int k (l.getD j 0)) := by
  rcases h with rfl | ⟨g, cs, hA, hblk, ht⟩
  · simp at hj
  · refine ⟨g, hA, hblk.lt, ?_⟩
    have e : (cs.take l.length)[j]? = some (.int k (l.getD j 0)) := by
      rw [ht]; simp [ns, List.getElem?_eq_getElem hj, List.getD_eq_getElem?_getD]
    rw [List.getElem?_take, if_pos hj] at e
    rw [hblk.cell, e]
theorem flat_snoc (f : Int → List Int) (l : List Int) (k : Nat) (h : k < l.length) : (l.take (k + 1)).flatMap f = (l.take k).flatMap f ++ f (l.getD k 0) := by
  rw [List.take_succ_eq_append_getElem h, List.flatMap_append, List.getD_eq_getElem?_getD, List.getElem?_eq_getElem h]
  simp
theorem flat_len (f : Int → List Int) (m : Nat) (hf : ∀ x, (f x).length ≤ m) : ∀ (l : List Int), (l.flatMap f).length ≤ l.length * m := by
  intro l
  induction l with
  | nil => simp
  | cons x xs ih =>
    simp only [List.flatMap_cons, List.length_append, List.length_cons, Nat.add_mul]
    have := hf x
    omega
theorem hdr_len (n sz t : Nat) : (hdr n sz t).length ≤ 10 := by
  unfold hdr
  split
  · simp
  · simp [be_length]

theorem getD_mem2 (l : List Int) (j : Nat) (h : j < l.length) : l.getD j 0 ∈ l := by
  rw [List.getD_eq_getElem?_getD, List.getElem?_eq_getElem h]; exact List.getElem_mem h
set_option maxHeartbeats 4000000 in
set_option maxRecDepth 100000 in
theorem MarshalU_small (w0 w : World) (B gb c : Nat) (A : Option Addr) (l : List Int) (hr : RowN w 35 A .u32 l) (hb : Bw w0 w B gb []) (hn : l.length ≤ 300) (hl : ∀ x ∈ l, 0 ≤ x ∧ x ≤ 255) :
    Calls Tryd.prog 46 #[.slice A l.length c, .pointer (some ⟨gb, 0, none⟩)] w fun e w' => e = .returned .nilIface ∧ Bw w0 w' B gb (hdr l.length 1 82 ++ l.flatMap (fun x => [x])) := by
  have HB := Lib.hid hb
  have HL := Lib.hid hl
  have hgb := hb.lt
  have HR := Lib.hid hr
  clear hr hb hl
  go_enter Tryd.func46, Tryd.ntmps46
  go_wp2
  go_loop [5, 6, 15] (fun a b i => ∃ k : Nat, k ≤ l.length ∧ a = .int .i64 1 ∧ b = .int .u8 82 ∧ i = .int .i64 k) (fun _ _ i => l.length - (intOf i).toNat)
  case atStart => exact ⟨0, Nat.zero_le _, rfl, rfl, rfl⟩
  case round =>
    obtain ⟨k, hk, rfl, rfl, rfl⟩ := hrel
    by_cases hlt : k < l.length
    · obtain ⟨g, hA, hg, hcell⟩ := HR.out.cell hlt
      subst hA
      obtain ⟨hx0, hx1⟩ := HL.out (l.getD k 0) (getD_mem2 l k hlt)
      have hd : decide (255 < l.getD k 0) = false := decide_eq_false (by omega)
      generalize l.getD k 0 = x at *
      go_wp2
      go_round
      case rel => exact ⟨k + 1, by omega, rfl, rfl, by go_num⟩
      case measure => simp [intOf]; omega
    · obtain rfl : k = l.length := by omega
      go_wp2_with (
        (go_at_call 84)
        go_must (
          (refine (writeArrayHeader_calls w0 w B gb l.length 1 82 _ _ _ rfl (by rfl) (by rfl) hn (by omega) (by omega) (by omega) HB.out).mono ?_)
          rintro e w1 ⟨rfl, hb1, hk1⟩
          have HR1 := Lib.hid (HR.out.keep HB.out hk1 (by decide) (by decide))
          have HB1 := Lib.hid hb1
          clear hb1 hk1))
      go_loopw [42] (fun i wr => ∃ j : Nat, j ≤ l.length ∧ i = .int .i64 j ∧ Hid (Bw w0 wr B gb (hdr l.length 1 82 ++ (l.take j).flatMap (fun x => [x])) ∧ RowN wr 35 A .u32 l)) (fun i _ => l.length - (intOf i).toNat)
      case atStart => exact ⟨0, Nat.zero_le _, rfl, by simpa using HB1.out, HR1.out⟩
      case round =>
        obtain ⟨j, hj, rfl, hst⟩ := hrel
        by_cases hlt2 : j < l.length
        · obtain ⟨g2, hA2, hg2, hcell2⟩ := hst.out.2.cell hlt2
          subst hA2
          obtain ⟨hx0, hx1⟩ := HL.out (l.getD j 0) (getD_mem2 l j hlt2)
          have hsn := flat_snoc (fun x => [x]) l j hlt2
          have hfl := flat_len (fun x => [x]) 1 (fun x => by first | (rw [be_length]; exact Nat.le_refl _) | exact Nat.le_refl _) (l.take j)
          have hh := hdr_len l.length 1 82
          have htl : (l.take j).length ≤ 300 := by rw [List.length_take]; omega
          have hlen : (hdr l.length 1 82 ++ (l.take j).flatMap (fun x => [x])).length ≤ 900000 := by rw [List.length_append]; omega
          have HSN := Lib.hid hsn
          have hgb2 := hst.out.1.lt
          clear hsn hfl hh htl
          obtain ⟨x, hx⟩ : ∃ x, x = l.getD j 0 := ⟨_, rfl⟩
          rw [← hx] at hcell2 hx0 hx1
          obtain ⟨y, hy⟩ : ∃ y, y = x := ⟨_, rfl⟩
          skip
          skip
          have HX := Lib.hid hx
          have HY := Lib.hid hy
          clear hx hy
          go_wp2_with (
            (go_at_call 78)
            go_must (
              (refine (AppendByte_calls w0 wr B gb x _ hst.out.1 (by omega)).mono ?_)
              rintro e w2 ⟨rfl, hb2, hk2⟩
              have HR2 := Lib.hid (hst.out.2.keep hst.out.1 hk2 (by decide) (by decide))
              have HB2 := Lib.hid hb2
              clear hb2 hk2))
          go_roundw
          case rel => exact ⟨j + 1, by omega, by go_num, by rw [HSN.out, ← List.append_assoc, ← HX.out]; have := HB2.out;  exact this, HR2.out⟩
          case measure => simp [intOf]; omega
        · obtain rfl : j = l.length := by omega
          go_wp2
          go_ret
          exact ⟨rfl, by have := hst.out.1; rwa [List.take_length] at this⟩

set_option maxHeartbeats 4000000 in
set_option maxRecDepth 100000 in
theorem MarshalU_big (w0 w : World) (B gb c : Nat) (A : Option Addr) (l : List Int) (hr : RowN w 35 A .u32 l) (hb : Bw w0 w B gb []) (hn : l.length ≤ 300) (hl : ∀ x ∈ l, 0 ≤ x ∧ x ≤ 4294967295) (p : Nat) (hp : p < l.length) (hbig : 255 < l.getD p 0) (hsm : ∀ j, j < p → l.getD j 0 ≤ 255) :
    Calls Tryd.prog 46 #[.slice A l.length c, .pointer (some ⟨gb, 0, none⟩)] w fun e w' => e = .returned .nilIface ∧ Bw w0 w' B gb (hdr l.length 4 112 ++ l.flatMap (fun x => be x 4)) := by
  have HB := Lib.hid hb
  have HL := Lib.hid hl
  have hgb := hb.lt
  have HSM := Lib.hid hsm
  obtain ⟨g0, hA0, hx8, hx9⟩ := hr.cell hp
  clear hx8 hx9
  subst hA0
  have HR := Lib.hid hr
  clear hr hb hl hsm
  go_enter Tryd.func46, Tryd.ntmps46
  go_wp2
  go_loop [5, 6, 15] (fun a b i => ∃ k : Nat, k ≤ p ∧ a = .int .i64 1 ∧ b = .int .u8 82 ∧ i = .int .i64 k) (fun _ _ i => p + 1 - (intOf i).toNat)
  case atStart => exact ⟨0, Nat.zero_le _, rfl, rfl, rfl⟩
  case round =>
    obtain ⟨k, hk, rfl, rfl, rfl⟩ := hrel
    have hkl : k < l.length := by omega
    by_cases hlt : k < p
    · obtain ⟨g, hA, hg, hcell⟩ := HR.out.cell hkl
      obtain rfl : g0 = g := by cases hA; rfl
      obtain ⟨hx0, hx1⟩ := HL.out (l.getD k 0) (getD_mem2 l k hkl)
      have hd : decide (255 < l.getD k 0) = false := decide_eq_false (by have := HSM.out k hlt; omega)
      generalize l.getD k 0 = x at *
      go_wp2
      go_round
      case rel => exact ⟨k + 1, by omega, rfl, rfl, by go_num⟩
      case measure => simp [intOf]; omega
    · obtain rfl : k = p := by omega
      obtain ⟨g, hA, hg, hcell⟩ := HR.out.cell hkl
      obtain rfl : g0 = g := by cases hA; rfl
      have hd : decide (255 < l.getD k 0) = true := decide_eq_true (by omega)
      obtain ⟨xk, hxk⟩ : ∃ xk, xk = l.getD k 0 := ⟨_, rfl⟩
      rw [← hxk] at hcell hd hbig
      clear hxk
      go_wp2_with (
        (go_at_call 84)
        go_must (
          (refine (writeArrayHeader_calls w0 w B gb l.length 4 112 _ _ _ rfl (by rfl) (by rfl) hn (by omega) (by omega) (by omega) HB.out).mono ?_)
          rintro e w1 ⟨rfl, hb1, hk1⟩
          have HR1 := Lib.hid (HR.out.keep HB.out hk1 (by decide) (by decide))
          have HB1 := Lib.hid hb1
          clear hb1 hk1))
      go_loopw [32] (fun i wr => ∃ j : Nat, j ≤ l.length ∧ i = .int .i64 j ∧ Hid (Bw w0 wr B gb (hdr l.length 4 112 ++ (l.take j).flatMap (fun x => be x 4)) ∧ RowN wr 35 (some ⟨g0, 0, none⟩) .u32 l)) (fun i _ => l.length - (intOf i).toNat)
      case atStart => exact ⟨0, Nat.zero_le _, rfl, by simpa using HB1.out, HR1.out⟩
      case round =>
        obtain ⟨j, hj, rfl, hst⟩ := hrel
        by_cases hlt2 : j < l.length
        · obtain ⟨g2, hA2, hg2, hcell2⟩ := hst.out.2.cell hlt2
          obtain rfl : g0 = g2 := by cases hA2; rfl
          obtain ⟨hx0, hx1⟩ := HL.out (l.getD j 0) (getD_mem2 l j hlt2)
          have hsn := flat_snoc (fun x => be x 4) l j hlt2
          have hfl := flat_len (fun x => be x 4) 4 (fun x => by first | (rw [be_length]; exact Nat.le_refl _) | exact Nat.le_refl _) (l.take j)
          have hh := hdr_len l.length 4 112
          have htl : (l.take j).length ≤ 300 := by rw [List.length_take]; omega
          have hlen : (hdr l.length 4 112 ++ (l.take j).flatMap (fun x => be x 4)).length ≤ 900000 := by rw [List.length_append]; omega
          have HSN := Lib.hid hsn
          have hgb2 := hst.out.1.lt
          clear hsn hfl hh htl
          obtain ⟨x, hx⟩ : ∃ x, x = l.getD j 0 := ⟨_, rfl⟩
          rw [← hx] at hcell2 hx0 hx1
          obtain ⟨y, hy⟩ : ∃ y, y = x := ⟨_, rfl⟩
          skip
          skip
          have HX := Lib.hid hx
          have HY := Lib.hid hy
          clear hx hy
          go_wp2_with (
            (go_at_call 85)
            go_must (
              (refine (AppendUint32_calls w0 wr B gb x _ (by omega) (by omega) hst.out.1 (by omega)).mono ?_)
              rintro e w2 ⟨rfl, hb2, hk2⟩
              have HR2 := Lib.hid (hst.out.2.keep hst.out.1 hk2 (by decide) (by decide))
              have HB2 := Lib.hid hb2
              clear hb2 hk2))
          go_roundw
          case rel => exact ⟨j + 1, by omega, by go_num, by rw [HSN.out, ← List.append_assoc, ← HX.out]; have := HB2.out;  exact this, HR2.out⟩
          case measure => simp [intOf]; omega
        · obtain rfl : j = l.length := by omega
          go_wp2
          go_ret
          exact ⟨rfl, by have := hst.out.1; rwa [List.take_length] at this⟩

set_option maxHeartbeats 4000000 in
set_option maxRecDepth 100000 in
theorem MarshalI_small (w0 w : World) (B gb c : Nat) (A : Option Addr) (l : List Int) (hr : RowN w 2 A .i64 l) (hb : Bw w0 w B gb []) (hn : l.length ≤ 300) (hl : ∀ x ∈ l, -128 ≤ x ∧ x ≤ 127) :
    Calls Tryd.prog 47 #[.slice A l.length c, .pointer (some ⟨gb, 0, none⟩)] w fun e w' => e = .returned .nilIface ∧ Bw w0 w' B gb (hdr l.length 1 85 ++ l.flatMap (fun x => [IntKind.u8.wrap x])) := by
  have HB := Lib.hid hb
  have HL := Lib.hid hl
  have hgb := hb.lt
  have HR := Lib.hid hr
  clear hr hb hl
  go_enter Tryd.func47, Tryd.ntmps47
  go_wp2
  go_loop [5, 6, 15] (fun a b i => ∃ k : Nat, k ≤ l.length ∧ a = .int .i64 1 ∧ b = .int .u8 85 ∧ i = .int .i64 k) (fun _ _ i => l.length - (intOf i).toNat)
  case atStart => exact ⟨0, Nat.zero_le _, rfl, rfl, rfl⟩
  case round =>
    obtain ⟨k, hk, rfl, rfl, rfl⟩ := hrel
    by_cases hlt : k < l.length
    · obtain ⟨g, hA, hg, hcell⟩ := HR.out.cell hlt
      subst hA
      obtain ⟨hx0, hx1⟩ := HL.out (l.getD k 0) (getD_mem2 l k hlt)
      have hd : decide (127 < l.getD k 0) = false := decide_eq_false (by omega)
      generalize l.getD k 0 = x at *
      go_wp2
      go_round
      case rel => exact ⟨k + 1, by omega, rfl, rfl, by go_num⟩
      case measure => simp [intOf]; omega
    · obtain rfl : k = l.length := by omega
      go_wp2_with (
        (go_at_call 84)
        go_must (
          (refine (writeArrayHeader_calls w0 w B gb l.length 1 85 _ _ _ rfl (by rfl) (by rfl) hn (by omega) (by omega) (by omega) HB.out).mono ?_)
          rintro e w1 ⟨rfl, hb1, hk1⟩
          have HR1 := Lib.hid (HR.out.keep HB.out hk1 (by decide) (by decide))
          have HB1 := Lib.hid hb1
          clear hb1 hk1))
      go_loopw [43] (fun i wr => ∃ j : Nat, j ≤ l.length ∧ i = .int .i64 j ∧ Hid (Bw w0 wr B gb (hdr l.length 1 85 ++ (l.take j).flatMap (fun x => [IntKind.u8.wrap x])) ∧ RowN wr 2 A .i64 l)) (fun i _ => l.length - (intOf i).toNat)
      case atStart => exact ⟨0, Nat.zero_le _, rfl, by simpa using HB1.out, HR1.out⟩
      case round =>
        obtain ⟨j, hj, rfl, hst⟩ := hrel
        by_cases hlt2 : j < l.length
        · obtain ⟨g2, hA2, hg2, hcell2⟩ := hst.out.2.cell hlt2
          subst hA2
          obtain ⟨hx0, hx1⟩ := HL.out (l.getD j 0) (getD_mem2 l j hlt2)
          have hsn := flat_snoc (fun x => [IntKind.u8.wrap x]) l j hlt2
          have hfl := flat_len (fun x => [IntKind.u8.wrap x]) 1 (fun x => by first | (rw [be_length]; exact Nat.le_refl _) | exact Nat.le_refl _) (l.take j)
          have hh := hdr_len l.length 1 85
          have htl : (l.take j).length ≤ 300 := by rw [List.length_take]; omega
          have hlen : (hdr l.length 1 85 ++ (l.take j).flatMap (fun x => [IntKind.u8.wrap x])).length ≤ 900000 := by rw [List.length_append]; omega
          have HSN := Lib.hid hsn
          have hgb2 := hst.out.1.lt
          clear hsn hfl hh htl
          obtain ⟨x, hx⟩ : ∃ x, x = l.getD j 0 := ⟨_, rfl⟩
          rw [← hx] at hcell2 hx0 hx1
          obtain ⟨y, hy⟩ : ∃ y, y = IntKind.u8.wrap x := ⟨_, rfl⟩
          have hyw : IntKind.u8.wrap x = y := hy.symm
          skip
          have HX := Lib.hid hx
          have HY := Lib.hid hy
          clear hx hy
          go_wp2_with (
            (go_at_call 78)
            go_must (
              (refine (AppendByte_calls w0 wr B gb y _ hst.out.1 (by omega)).mono ?_)
              rintro e w2 ⟨rfl, hb2, hk2⟩
              have HR2 := Lib.hid (hst.out.2.keep hst.out.1 hk2 (by decide) (by decide))
              have HB2 := Lib.hid hb2
              clear hb2 hk2))
          go_roundw
          case rel => exact ⟨j + 1, by omega, by go_num, by rw [HSN.out, ← List.append_assoc, ← HX.out]; have := HB2.out; rw [HY.out] at this; exact this, HR2.out⟩
          case measure => simp [intOf]; omega
        · obtain rfl : j = l.length := by omega
          go_wp2
          go_ret
          exact ⟨rfl, by have := hst.out.1; rwa [List.take_length] at this⟩

set_option maxHeartbeats 4000000 in
set_option maxRecDepth 100000 in
theorem MarshalI_big (w0 w : World) (B gb c : Nat) (A : Option Addr) (l : List Int) (hr : RowN w 2 A .i64 l) (hb : Bw w0 w B gb []) (hn : l.length ≤ 300) (hl : ∀ x ∈ l, -9223372036854775808 ≤ x ∧ x ≤ 9223372036854775807) (p : Nat) (hp : p < l.length) (hbig : 127 < l.getD p 0) (hsm : ∀ j, j < p → l.getD j 0 ≤ 127) :
    Calls Tryd.prog 47 #[.slice A l.length c, .pointer (some ⟨gb, 0, none⟩)] w fun e w' => e = .returned .nilIface ∧ Bw w0 w' B gb (hdr l.length 8 129 ++ l.flatMap (fun x => be (IntKind.u64.wrap x) 8)) := by
  have HB := Lib.hid hb
  have HL := Lib.hid hl
  have hgb := hb.lt
  have HSM := Lib.hid hsm
  obtain ⟨g0, hA0, hx8, hx9⟩ := hr.cell hp
  clear hx8 hx9
  subst hA0
  have HR := Lib.hid hr
  clear hr hb hl hsm
  go_enter Tryd.func47, Tryd.ntmps47
  go_wp2
  go_loop [5, 6, 15] (fun a b i => ∃ k : Nat, k ≤ p ∧ a = .int .i64 1 ∧ b = .int .u8 85 ∧ i = .int .i64 k) (fun _ _ i => p + 1 - (intOf i).toNat)
  case atStart => exact ⟨0, Nat.zero_le _, rfl, rfl, rfl⟩
  case round =>
    obtain ⟨k, hk, rfl, rfl, rfl⟩ := hrel
    have hkl : k < l.length := by omega
    by_cases hlt : k < p
    · obtain ⟨g, hA, hg, hcell⟩ := HR.out.cell hkl
      obtain rfl : g0 = g := by cases hA; rfl
      obtain ⟨hx0, hx1⟩ := HL.out (l.getD k 0) (getD_mem2 l k hkl)
      have hd : decide (127 < l.getD k 0) = false := decide_eq_false (by have := HSM.out k hlt; omega)
      generalize l.getD k 0 = x at *
      go_wp2
      go_round
      case rel => exact ⟨k + 1, by omega, rfl, rfl, by go_num⟩
      case measure => simp [intOf]; omega
    · obtain rfl : k = p := by omega
      obtain ⟨g, hA, hg, hcell⟩ := HR.out.cell hkl
      obtain rfl : g0 = g := by cases hA; rfl
      have hd : decide (127 < l.getD k 0) = true := decide_eq_true (by omega)
      obtain ⟨xk, hxk⟩ : ∃ xk, xk = l.getD k 0 := ⟨_, rfl⟩
      rw [← hxk] at hcell hd hbig
      clear hxk
      go_wp2_with (
        (go_at_call 84)
        go_must (
          (refine (writeArrayHeader_calls w0 w B gb l.length 8 129 _ _ _ rfl (by rfl) (by rfl) hn (by omega) (by omega) (by omega) HB.out).mono ?_)
          rintro e w1 ⟨rfl, hb1, hk1⟩
          have HR1 := Lib.hid (HR.out.keep HB.out hk1 (by decide) (by decide))
          have HB1 := Lib.hid hb1
          clear hb1 hk1))
      go_loopw [32] (fun i wr => ∃ j : Nat, j ≤ l.length ∧ i = .int .i64 j ∧ Hid (Bw w0 wr B gb (hdr l.length 8 129 ++ (l.take j).flatMap (fun x => be (IntKind.u64.wrap x) 8)) ∧ RowN wr 2 (some ⟨g0, 0, none⟩) .i64 l)) (fun i _ => l.length - (intOf i).toNat)
      case atStart => exact ⟨0, Nat.zero_le _, rfl, by simpa using HB1.out, HR1.out⟩
      case round =>
        obtain ⟨j, hj, rfl, hst⟩ := hrel
        by_cases hlt2 : j < l.length
        · obtain ⟨g2, hA2, hg2, hcell2⟩ := hst.out.2.cell hlt2
          obtain rfl : g0 = g2 := by cases hA2; rfl
          obtain ⟨hx0, hx1⟩ := HL.out (l.getD j 0) (getD_mem2 l j hlt2)
          have hsn := flat_snoc (fun x => be (IntKind.u64.wrap x) 8) l j hlt2
          have hfl := flat_len (fun x => be (IntKind.u64.wrap x) 8) 8 (fun x => by first | (rw [be_length]; exact Nat.le_refl _) | exact Nat.le_refl _) (l.take j)
          have hh := hdr_len l.length 8 129
          have htl : (l.take j).length ≤ 300 := by rw [List.length_take]; omega
          have hlen : (hdr l.length 8 129 ++ (l.take j).flatMap (fun x => be (IntKind.u64.wrap x) 8)).length ≤ 900000 := by rw [List.length_append]; omega
          have HSN := Lib.hid hsn
          have hgb2 := hst.out.1.lt
          clear hsn hfl hh htl
          obtain ⟨x, hx⟩ : ∃ x, x = l.getD j 0 := ⟨_, rfl⟩
          rw [← hx] at hcell2 hx0 hx1
          obtain ⟨y, hy⟩ : ∃ y, y = IntKind.u64.wrap x := ⟨_, rfl⟩
          have hyw : IntKind.u64.wrap x = y := hy.symm
          have hyr := u64_wrap_range x
          rw [← hy] at hyr
          obtain ⟨hyr0, hyr1⟩ := hyr
          have HX := Lib.hid hx
          have HY := Lib.hid hy
          clear hx hy
          go_wp2_with (
            (go_at_call 86)
            go_must (
              (refine (AppendUint64_calls w0 wr B gb y _ hyr0 hyr1 hst.out.1 (by omega)).mono ?_)
              rintro e w2 ⟨rfl, hb2, hk2⟩
              have HR2 := Lib.hid (hst.out.2.keep hst.out.1 hk2 (by decide) (by decide))
              have HB2 := Lib.hid hb2
              clear hb2 hk2))
          go_roundw
          case rel => exact ⟨j + 1, by omega, by go_num, by rw [HSN.out, ← List.append_assoc, ← HX.out]; have := HB2.out; rw [HY.out] at this; exact this, HR2.out⟩
          case measure => simp [intOf]; omega
        · obtain rfl : j = l.length := by omega
          go_wp2
          go_ret
          exact ⟨rfl, by have := hst.out.1; rwa [List.take_length] at this⟩


end Go.Proofs.YtpkfmcnbodnpeaaDoor
