/- AMQP: the reference's within at arrays of numbers. PRINTED by wip/genvi.py. -/
import Derived.Test.YtpkfmcnbodnpeaaDoorVf
import Derived.Test.YtpkfmcnbodnpeaaDoorVh
namespace Go.Proofs.YtpkfmcnbodnpeaaDoor
open Go.RowKit Go.Maps
set_option linter.unusedVariables false

/-- The cells of a number. -/
def c6 (k u : Int) : List Value := [.int .i64 k, .int .u64 u, .string ByteArray.empty, .slice none 0 0, .int .i64 0, .slice none 0 0]
theorem c6_one (k u : Int) : ∀ x ∈ c6 k u, x.oneCell' = true := by
  intro x hx
  simp only [c6, List.mem_cons, List.mem_nil_iff, or_false] at hx
  rcases hx with rfl | rfl | rfl | rfl | rfl | rfl <;> rfl
theorem info_val : (Tryd.prog.info? 29).map (fun i => (i.zero, i.size, i.bytes)) = some (some (.agg zv.toArray), 6, 88) := by kernel_rfl
theorem own_setI {w : World} {base gb n i sz : Nat} {e : TypeId} {v u : Value} {xs : List Value} (h : w.ownsRow base e sz v n xs) (hne : some gb ≠ v.ownBlock) : (w.setCell ⟨gb, i, none⟩ u).ownsRow base e sz v n xs :=
  h.kept (row := some gb) ⟨rfl, rfl, rfl, by simp, fun k _ hk => heap_setCell_other w ⟨gb, i, none⟩ k u (fun e => hk (by simp [e]))⟩ (.inr (fun e => hne e.symm))
theorem own_set6 {w : World} {base p n sz : Nat} {t : TypeId} {v : Value} {xs : List Value} (h : w.ownsRow base t sz v n xs) (hne : some p ≠ v.ownBlock) (a b c d e f : Value) : (set6 w p a b c d e f).ownsRow base t sz v n xs :=
  own_setI (own_setI (own_setI (own_setI (own_setI (own_setI h hne) hne) hne) hne) hne) hne
theorem own_below {w w' : World} {base n sz : Nat} {t : TypeId} {v : Value} {xs : List Value} (h : w.ownsRow base t sz v n xs) (hb : Below w.heap.size w w') : w'.ownsRow base t sz v n xs :=
  h.kept (row := none) ⟨hb.os, hb.tape, hb.output, hb.size, fun k hk _ => hb.block k hk⟩ (by cases hv : v.ownBlock <;> simp)
theorem fl6_len (f : Int → Int) (k : Int) (l : List Int) : (l.flatMap fun x => c6 k (f x)).length = l.length * 6 := by
  induction l with
  | nil => rfl
  | cons x xs ih => simp only [List.flatMap_cons, List.length_append, List.length_cons, ih]; simp only [c6, List.length_cons, List.length_nil]; omega
theorem fl6_snoc (f : Int → Int) (k : Int) (l : List Int) (j : Nat) (h : j < l.length) : (l.take (j + 1)).flatMap (fun x => c6 k (f x)) = (l.take j).flatMap (fun x => c6 k (f x)) ++ c6 k (f (l.getD j 0)) := by
  rw [List.take_succ_eq_append_getElem h, List.flatMap_append, List.getD_eq_getElem?_getD, List.getElem?_eq_getElem h]
  simp
theorem drop_flat {β : Type} (e : Int → List β) (l : List Int) (j : Nat) (h : j < l.length) : (l.drop j).flatMap e = e (l.getD j 0) ++ (l.drop (j + 1)).flatMap e := by
  rw [List.drop_eq_getElem_cons h, List.flatMap_cons, List.getD_eq_getElem?_getD, List.getElem?_eq_getElem h]; rfl

/-- How many bytes the elements from one on have. -/
def dlen (e : Int → List Int) (l : List Int) (j : Nat) : Nat := ((l.drop j).flatMap e).length
/-- The state of the loop over an array's elements. -/
structure WSt (w wr : World) (B BL H18 j : Nat) (A' : Option Addr) (c' : Nat) (Ab : Option Addr) (cb : Nat) (t k : Int) (f : Int → Int) (e : Int → List Int) (l : List Int) : Prop where
  own : wr.ownsRow BL 29 6 (.slice A' j c') j ((l.take j).flatMap fun x => c6 k (f x))
  bv : Blk wr w.heap.size 29 [.int .i64 23, .int .u64 0, .string ByteArray.empty, .slice A' j c', .int .i64 0, .slice none 0 0]
  br : Blk wr (w.heap.size + 1) 29 zv
  bc : Blk wr H18 136 [.slice none 0 0, .int .i64 t]
  rd : Reads wr B 1 Ab ((l.drop j).flatMap e).length (bs ((l.drop j).flatMap e))
  hc : ((l.drop j).flatMap e).length ≤ cb
  hm : cb ≤ maxLen
  bel : Below w.heap.size w wr
  sz : BL ≤ wr.heap.size

theorem reads_one6 (W : World) (t : TypeId) (cs : List Value) (b : Nat) (hb : b = W.heap.size) {sz : Nat} (h : cs.length = sz) : Reads (W.alloc (.cells cs.toArray t)) (b + 1) sz (some ⟨b, 0, none⟩) 1 cs := by
  subst hb
  refine ⟨by omega, fun _ => ⟨_, rfl, by simp, fun j u hu => ?_⟩⟩
  rw [add_lit, (Blk.new W t cs).cell]
  simpa using hu
/-- Values that lie at the head of a block of its own, from block base on. -/
def KR (W : World) (base : Nat) (A : Option Addr) (n : Nat) (xs : List Value) : Prop :=
  xs.length = n * 6 ∧ (0 < n → ∃ g, A = some ⟨g, 0, none⟩ ∧ base ≤ g ∧ g < W.heap.size ∧ ∀ j u, xs[j]? = some u → W.cell? ⟨g, j, none⟩ = some u)
theorem kr_own {w : World} {base n c : Nat} {A : Option Addr} {t : TypeId} {xs : List Value} (h : w.ownsRow base t 6 (.slice A n c) n xs) : KR w base A n xs := by
  refine ⟨h.1, fun hn => ?_⟩
  obtain ⟨g, cap, hv, hb, hlt⟩ := h.form hn
  injection hv with hA _ _
  subst hA
  refine ⟨g, rfl, hb, hlt, fun j u hu => ?_⟩
  have := h.cells (g := g) rfl j u hu
  rwa [add_lit, Nat.zero_add] at this
theorem KR.mono {W : World} {base base' n : Nat} {A : Option Addr} {xs : List Value} (h : KR W base A n xs) (hb : base' ≤ base) : KR W base' A n xs :=
  ⟨h.1, fun hn => by obtain ⟨g, h1, h2, h3, h4⟩ := h.2 hn; exact ⟨g, h1, by omega, h3, h4⟩⟩
theorem KR.setCell {W : World} {base n p i : Nat} {A : Option Addr} {xs : List Value} (h : KR W base A n xs) (hp : p < base) (u : Value) : KR (W.setCell ⟨p, i, none⟩ u) base A n xs :=
  ⟨h.1, fun hn => by
    obtain ⟨g, h1, h2, h3, h4⟩ := h.2 hn
    exact ⟨g, h1, h2, by simpa using h3, fun j v hv => (World.cell?_setCell_other W _ _ u (fun e => by injection e with e1; omega)).trans (h4 j v hv)⟩⟩
theorem KR.below {W W' : World} {base n : Nat} {A : Option Addr} {xs : List Value} (h : KR W base A n xs) (hb : Below W.heap.size W W') : KR W' base A n xs :=
  ⟨h.1, fun hn => by
    obtain ⟨g, h1, h2, h3, h4⟩ := h.2 hn
    exact ⟨g, h1, h2, Nat.lt_of_lt_of_le h3 hb.size, fun j v hv => (hb.cell (p := ⟨g, j, none⟩) h3).trans (h4 j v hv)⟩⟩
theorem KR.alloc {W : World} {base n : Nat} {A : Option Addr} {xs : List Value} (h : KR W base A n xs) (o : Obj) : KR (W.alloc o) base A n xs := h.below ((Below.refl _ W).alloc (Nat.le_refl _) o)
theorem KR.set6 {W : World} {base n p : Nat} {A : Option Addr} {xs : List Value} (h : KR W base A n xs) (hp : p < base) (a b c d e f : Value) : KR (set6 W p a b c d e f) base A n xs :=
  (((((h.setCell hp _).setCell hp _).setCell hp _).setCell hp _).setCell hp _).setCell hp _
/-- What 'within' tells. -/
def Wn (w : World) (k : Int) (f : Int → Int) (l : List Int) (e : Ending) (w' : World) : Prop :=
  ∃ (A' : Option Addr) (c' : Nat) (Ar : Option Addr) (cr : Nat) (o : Int), e = .returned (.tuple #[.agg #[.int .i64 23, .int .u64 0, .string ByteArray.empty, .slice A' l.length c', .int .i64 o, .slice none 0 0], .slice Ar 0 cr, .bool true]) ∧ cr ≤ maxLen ∧ KR w' w.heap.size A' l.length (l.flatMap fun x => c6 k (f x)) ∧ Below w.heap.size w w'

set_option maxHeartbeats 8000000 in
set_option maxRecDepth 100000 in
theorem within_calls (w : World) (B c s N n : Nat) (A : Option Addr) (D : List Int) (t k zN zs : Int) (f : Int → Int) (e : Int → List Int) (l : List Int) (ezN : zN = (N : Int)) (ezs : zs = (s : Int)) (h : Reads w B 1 A N (bs D)) (hB : B ≤ w.heap.size) (hD : IsB D) (hN0 : 0 < N) (hc : N ≤ c) (hm : c ≤ maxLen) (hNm : N ≤ 1000000)
    (hs0 : 0 < s) (hs8 : s ≤ 8) (hsN : s ≤ N) (hcnt : valBE (D.take s) = (n : Int)) (hrest : D.drop s = t :: l.flatMap e) (hn : n = l.length) (hn3 : n ≤ 300) (ht0 : 0 < t) (ht1 : t ≤ 255) (hkd : ∃ z, look2 KINDS t (.lit (.int .i64 0)) = pairD k z)
    (hE : ∀ (j : Nat), j < l.length → ∀ (W : World) (A : Option Addr) (c : Nat), Reads W B 1 A ((l.drop j).flatMap e).length (bs ((l.drop j).flatMap e)) → B ≤ W.heap.size → ((l.drop j).flatMap e).length ≤ c → c ≤ maxLen → Calls Tryd.prog 81 #[.agg #[.slice none 0 0, .int .i64 t], .slice A ((l.drop j).flatMap e).length c, .int .i64 7] W (Tk W B (vl k (f (l.getD j 0)) ByteArray.empty) ((l.drop (j + 1)).flatMap e))) :
    Calls Tryd.prog 107 #[.agg #[.int .i64 23, .int .u64 0, .string ByteArray.empty, .slice none 0 0, .int .i64 0, .slice none 0 0], .int .u64 zN, .int .i64 zs, .slice A N c, .int .i64 8] w (Wn w k f l) := by
  subst ezN
  subst ezs
  have hDl : D.length = N := h.bytes
  have hm' : c ≤ 9223372036854775807 := by unfold maxLen at hm; omega
  obtain ⟨ad, rfl, hadB, hx9⟩ := h.byte (l := D) (k := 0) hN0
  clear hx9
  have hcall := takeBig_abs B c s (s : Int) rfl (some ad) D hD hs8 (by omega) (by omega) hm
  rw [hDl] at hcall
  obtain ⟨A2, c2, hl2, hc2, hr2, hcall⟩ := hcall
  rw [hcnt, hrest] at hcall
  rw [hrest] at hl2 hr2
  simp only [List.length_cons] at hcall hl2 hr2
  obtain ⟨F1, hF1⟩ : ∃ F1, F1 = l.flatMap e := ⟨_, rfl⟩
  rw [← hF1] at hcall hl2 hr2
  have HF1 := Lib.hid hF1
  have HCALL := Lib.hid hcall
  have HR2 := Lib.hid hr2
  have H := Lib.hid h
  have HKD := Lib.hid hkd
  have HE := Lib.hid hE
  have HN := Lib.hid hn
  obtain ⟨i0, hI0, hI1, hI2, hI3⟩ := info_parts info_val
  have e1 : decide ((N : Int) < (s : Int)) = false := by simp; omega
  have e2 : decide ((1048576 : Int) < (n : Int)) = false := by simp; omega
  have hcN : (N : Int) ≤ (c : Int) := by omega
  have hN0' : (0 : Int) ≤ (N : Int) := by omega
  clear hcall hr2 h hcnt hrest hkd hE hF1 hn
  have e1' : decide (N < s) = false := by simp; omega
  have hAr : ∃ (Ar : Option Addr) (cr : Nat), cr ≤ maxLen ∧ Hid (Ar = Ar ∧ cr = cr) := ⟨none, 0, by omega, ⟨rfl, rfl⟩⟩
  clear hAr
  by_cases hn0 : n = 0
  · have e3 : ((n : Int) == 0) = true := by simp; omega
    have e4 : (n : Int) = 0 := by omega
    have hl0 : l = [] := List.eq_nil_of_length_eq_zero (by rw [← HN.out]; exact hn0)
    have hF0 : F1.length = 0 := by rw [HF1.out, hl0]; rfl
    have e5 : ((F1.length : Int) == 0) = true := by rw [hF0]; rfl
    have e6 : (F1.length == 0) = true := by rw [hF0]; rfl
    have e7 : decide (F1.length = 0) = true := by rw [hF0]; rfl
    have HF0 := Lib.hid hF0
    have HL0 := Lib.hid hl0
    have HN0 := Lib.hid hn0
    have E4 := Lib.hid e4
    obtain ⟨z, hz⟩ := HKD.out
    have HZ := Lib.hid hz
    clear hF0 hl0 hn0 hz e4
    by_cases hcc : c = N
    all_goals
      try subst hcc
      go_enter Tryd.func107, Tryd.ntmps107
      go_wp2
      go_quiet (fail)
      go_wp2_with (first
        | (go_at_call 106
           go_must (
             (refine (HCALL.out _ ((((H.out.alloc hB _).alloc (by simp; omega) _).alloc (by simp; omega) _).drewN _)).mono ?_)
             rintro r w1 ⟨rfl, n1, hw1⟩
             have b0 : Blk w1 w.heap.size 29 [.int .i64 23, .int .u64 0, .string ByteArray.empty, .slice none 0 0, .int .i64 0, .slice none 0 0] := by rw [hw1]; exact ((((Blk.new w 29 _).alloc _).alloc _).drewN _).drewN _
             have b1 : Blk w1 (w.heap.size + 1) 29 zv := by
               rw [hw1]
               have := ((Blk.new (w.alloc (.cells #[.int .i64 23, .int .u64 0, .string ByteArray.empty, .slice none 0 0, .int .i64 0, .slice none 0 0] 29)) 29 zv).alloc (.cells zv.toArray 29)).drewN nq |>.drewN n1
               rw [show (w.alloc (.cells #[.int .i64 23, .int .u64 0, .string ByteArray.empty, .slice none 0 0, .int .i64 0, .slice none 0 0] 29)).heap.size = w.heap.size + 1 by simp] at this
               exact this
             have hbel1 : Below w.heap.size w w1 := by rw [hw1]; exact below_drewN (below_drewN ((((Below.refl _ w).alloc (Nat.le_refl _) _).alloc (by simp) _).alloc (by simp; omega) _) _) _
             have hz1 : w.heap.size + 1 + 1 < w1.heap.size := by rw [hw1]; show _ < (((w.alloc _).alloc _).alloc _).heap.size; simp
             have hrd1 := HR2.out w1 (H.out.below (hbel1.mono hB))
             have q0 : w1.cell? ⟨w.heap.size, 0, none⟩ = some (.int .i64 23) := b0.cell 0
             have hz10 : w.heap.size < w1.heap.size := by omega
             have hz11 : w.heap.size + 1 < w1.heap.size := by omega
             have B0 := Lib.hid b0
             have B1 := Lib.hid b1
             have HBEL1 := Lib.hid hbel1
             have HRD1 := Lib.hid hrd1
             clear hw1 b0 b1 hbel1 hrd1))
        | (go_at_call 80
           go_must (
             (refine (takeConstructor_plain _ B c2 A2 t 7 F1 (HRD1.out.alloc (by omega) _) (by simp; omega) ht0 ht1 hl2 (Nat.le_trans hc2 hm) (by omega)).mono ?_)
             rintro r w3 ⟨A3, c3, rfl, hl3, hm3, hr3, hb3⟩
             have hz3 : w1.heap.size < w3.heap.size := by have := hb3.size; simp at this; omega
             have b0 := (B0.out.alloc (.cells #[.slice none 0 0, .int .i64 0] 136)).below hb3 (by simp; omega)
             have b1 := (B1.out.alloc (.cells #[.slice none 0 0, .int .i64 0] 136)).below hb3 (by simp; omega)
             have b2 := (Blk.new w1 136 [.slice none 0 0, .int .i64 0]).below hb3 (by simp)
             have hbel3 : Below w.heap.size w w3 := (HBEL1.out.alloc (by omega) _).trans (hb3.mono (by simp; omega))
             have q3 : w3.cell? ⟨w.heap.size, 0, none⟩ = some (.int .i64 23) := b0.cell 0
             have y0 : w3.cell? ⟨w1.heap.size, 0, none⟩ = some (.slice none 0 0) := b2.cell 0
             have y1 : w3.cell? ⟨w1.heap.size, 1, none⟩ = some (.int .i64 0) := b2.cell 1
             have hz30 : w.heap.size < w3.heap.size := by omega
             have hz31 : w.heap.size + 1 < w3.heap.size := by omega
             have hne0 : ¬ w.heap.size = w1.heap.size := by omega
             have y2 := b2.frozen 0
             have y3 := b2.frozen 1
             have C0 := Lib.hid b0
             have C1 := Lib.hid b1
             have C2 := Lib.hid b2
             have HBEL3 := Lib.hid hbel3
             have HRD3 := Lib.hid hr3
             clear b0 b1 b2 hbel3 hb3 hr3))
        | (go_at_call 105
           go_must (
             (refine (kindOf_yes _ t k z (by omega) (by omega) HZ.out).mono ?_)
             rintro r w4 ⟨rfl, hb4⟩
             have hzz : w1.heap.size < w3.heap.size := hz3
             have d0 := ((C0.out.far (p := ⟨w1.heap.size, 0, none⟩) hne0 (.slice none 0 0)).far (p := ⟨w1.heap.size, 1, none⟩) hne0 (.int .i64 t)).below hb4 (by simp; omega)
             have d1 := ((C1.out.far (p := ⟨w1.heap.size, 0, none⟩) (Nat.ne_of_lt hz11) (.slice none 0 0)).far (p := ⟨w1.heap.size, 1, none⟩) (Nat.ne_of_lt hz11) (.int .i64 t)).below hb4 (by simp; omega)
             have hbel4 : Below w.heap.size w w4 := ((HBEL3.out.setCell (p := ⟨w1.heap.size, 0, none⟩) (by simp; omega) (.slice none 0 0)).setCell (p := ⟨w1.heap.size, 1, none⟩) (by simp; omega) (.int .i64 t)).trans (hb4.mono (by simp; omega))
             obtain ⟨k0, k1, k2, k3, k4, k5⟩ := blk_cells6 d0
             have k6 := d0.frozen 4
             have k7 := d0.lt
             obtain ⟨r0, r1, r2, r3, r4, r5⟩ := blk_cells6 d1
             obtain ⟨f0, f1, f2, f3, f4, f5⟩ := blk_froz6 d1
             have k8 := d1.lt
             have ZB1 := Lib.hid d1
             have ZBEL := Lib.hid hbel4
             clear d0 d1 hbel4 hb4)))
      refine bodyPost_ret (results_cell2 rfl _ rfl (blk_set6 (ZB1.out.far (p := ⟨w.heap.size, 4, none⟩) (by simp) _) _ _ _ _ _ _) Tryd.underlying29 rfl (by kernel_rfl)) rfl ?_
      refine ⟨none, 0, _, _, k, by rw [HL0.out]; rfl, by omega, by rw [HL0.out]; exact ⟨rfl, fun h => absurd h (by simp)⟩, bel_set6 (ZBEL.out.setCell (Nat.le_refl _) _) (Nat.le_add_right _ 1) _ _ _ _ _ _⟩
  have e3 : ((n : Int) == 0) = false := by simp; omega
  have e4 : ¬ (n : Int) = 0 := by omega
  by_cases hcc : c = N
  all_goals
    try subst hcc
    go_enter Tryd.func107, Tryd.ntmps107
    go_wp2
    go_quiet (fail)
    go_wp2_with (first
      | (go_at_call 106
         go_must (
           (refine (HCALL.out _ ((((H.out.alloc hB _).alloc (by simp; omega) _).alloc (by simp; omega) _).drewN _)).mono ?_)
           rintro r w1 ⟨rfl, n1, hw1⟩
           have b0 : Blk w1 w.heap.size 29 [.int .i64 23, .int .u64 0, .string ByteArray.empty, .slice none 0 0, .int .i64 0, .slice none 0 0] := by rw [hw1]; exact ((((Blk.new w 29 _).alloc _).alloc _).drewN _).drewN _
           have b1 : Blk w1 (w.heap.size + 1) 29 zv := by
             rw [hw1]
             have := ((Blk.new (w.alloc (.cells #[.int .i64 23, .int .u64 0, .string ByteArray.empty, .slice none 0 0, .int .i64 0, .slice none 0 0] 29)) 29 zv).alloc (.cells zv.toArray 29)).drewN nq |>.drewN n1
             rw [show (w.alloc (.cells #[.int .i64 23, .int .u64 0, .string ByteArray.empty, .slice none 0 0, .int .i64 0, .slice none 0 0] 29)).heap.size = w.heap.size + 1 by simp] at this
             exact this
           have hbel1 : Below w.heap.size w w1 := by rw [hw1]; exact below_drewN (below_drewN ((((Below.refl _ w).alloc (Nat.le_refl _) _).alloc (by simp) _).alloc (by simp; omega) _) _) _
           have hz1 : w.heap.size + 1 + 1 < w1.heap.size := by rw [hw1]; show _ < (((w.alloc _).alloc _).alloc _).heap.size; simp
           have hrd1 := HR2.out w1 (H.out.below (hbel1.mono hB))
           have q0 : w1.cell? ⟨w.heap.size, 0, none⟩ = some (.int .i64 23) := b0.cell 0
           have hz10 : w.heap.size < w1.heap.size := by omega
           have hz11 : w.heap.size + 1 < w1.heap.size := by omega
           have B0 := Lib.hid b0
           have B1 := Lib.hid b1
           have HBEL1 := Lib.hid hbel1
           have HRD1 := Lib.hid hrd1
           clear hw1 b0 b1 hbel1 hrd1))
      | (go_at_call 80
         go_must (
           (refine (takeConstructor_plain _ B c2 A2 t 7 F1 (HRD1.out.alloc (by omega) _) (by simp; omega) ht0 ht1 hl2 (Nat.le_trans hc2 hm) (by omega)).mono ?_)
           rintro r w3 ⟨A3, c3, rfl, hl3, hm3, hr3, hb3⟩
           have hz3 : w1.heap.size < w3.heap.size := by have := hb3.size; simp at this; omega
           have b0 := (B0.out.alloc (.cells #[.slice none 0 0, .int .i64 0] 136)).below hb3 (by simp; omega)
           have b1 := (B1.out.alloc (.cells #[.slice none 0 0, .int .i64 0] 136)).below hb3 (by simp; omega)
           have b2 := (Blk.new w1 136 [.slice none 0 0, .int .i64 0]).below hb3 (by simp)
           have hbel3 : Below w.heap.size w w3 := (HBEL1.out.alloc (by omega) _).trans (hb3.mono (by simp; omega))
           have q3 : w3.cell? ⟨w.heap.size, 0, none⟩ = some (.int .i64 23) := b0.cell 0
           have y0 : w3.cell? ⟨w1.heap.size, 0, none⟩ = some (.slice none 0 0) := b2.cell 0
           have y1 : w3.cell? ⟨w1.heap.size, 1, none⟩ = some (.int .i64 0) := b2.cell 1
           have hz30 : w.heap.size < w3.heap.size := by omega
           have hz31 : w.heap.size + 1 < w3.heap.size := by omega
           have hne0 : ¬ w.heap.size = w1.heap.size := by omega
           have y2 := b2.frozen 0
           have y3 := b2.frozen 1
           have C0 := Lib.hid b0
           have C1 := Lib.hid b1
           have C2 := Lib.hid b2
           have HBEL3 := Lib.hid hbel3
           have HRD3 := Lib.hid hr3
           clear b0 b1 b2 hbel3 hb3 hr3)))
    obtain rfl : n = l.length := HN.out
    have hrd3 := HRD3.out
    have hl3' := hl3
    rw [HF1.out] at hrd3 hl3'
    have HL3 := Lib.hid hl3'
    have HRD3' := Lib.hid hrd3
    clear hrd3 hl3'
    clear HCALL HR2 HKD
    have hww1 : w.heap.size ≤ w1.heap.size := by omega
    have hbw1 : B ≤ w1.heap.size := by omega
    have hBL : w.heap.size + 1 < w3.heap.size := hz31
    have hBL1 : w1.heap.size < w3.heap.size := hz3
    have hst0 : WSt w ((w3.setCell ⟨w1.heap.size, 0, none⟩ (.slice none 0 0)).setCell ⟨w1.heap.size, 1, none⟩ (.int .i64 t)) B w3.heap.size w1.heap.size 0 none 0 A3 c3 t k f e l :=
      ⟨World.ownsRow_nil _ _ _ _, (C0.out.far (p := ⟨w1.heap.size, 0, none⟩) hne0 _).far (p := ⟨w1.heap.size, 1, none⟩) hne0 _,
       (C1.out.far (p := ⟨w1.heap.size, 0, none⟩) (Nat.ne_of_lt hz11) _).far (p := ⟨w1.heap.size, 1, none⟩) (Nat.ne_of_lt hz11) _, (C2.out.set_ 0 _).set_ 1 _,
       (HRD3'.out.setCell (p := ⟨w1.heap.size, 0, none⟩) hbw1 _).setCell (p := ⟨w1.heap.size, 1, none⟩) hbw1 _, HL3.out, hm3, (HBEL3.out.setCell hww1 _).setCell hww1 _, by simp⟩
    have HST0 := Lib.hid hst0
    clear hst0 q3 y0 y1 y2 y3 q0 C0 C1 C2 HRD3 HBEL3 HRD1 HBEL1 B0 B1
    go_loopw [14, 22] (fun bdy i wr => ∃ (j : Nat) (A' : Option Addr) (c' : Nat) (Ab : Option Addr) (cb : Nat), j ≤ l.length ∧ i = .int .u64 (j : Nat) ∧ bdy = .slice Ab (dlen e l j) cb ∧ Hid (WSt w wr B w3.heap.size w1.heap.size j A' c' Ab cb t k f e l)) (fun _ i _ => l.length - (intOf i).toNat)
    case atStart => exact ⟨0, none, 0, A3, c3, Nat.zero_le _, rfl, by rw [show dlen e l 0 = F1.length from by rw [HF1.out]; rfl], HST0.out⟩
    case round =>
      obtain ⟨j, A', c', Ab, cb, hj, rfl, rfl, hst⟩ := hrel
      have u0 : wr.cell? ⟨w.heap.size, 0, none⟩ = some (.int .i64 23) := hst.out.bv.cell 0
      have u3 : wr.cell? ⟨w.heap.size, 3, none⟩ = some (.slice A' j c') := hst.out.bv.cell 3
      have t0 : wr.cell? ⟨w1.heap.size, 0, none⟩ = some (.slice none 0 0) := hst.out.bc.cell 0
      have t1 : wr.cell? ⟨w1.heap.size, 1, none⟩ = some (.int .i64 t) := hst.out.bc.cell 1
      have hwr3 := hst.out.sz
      have g0 : w.heap.size < wr.heap.size := by omega
      have g1 : w1.heap.size < wr.heap.size := by omega
      have g2 : w.heap.size + 1 < wr.heap.size := by omega
      by_cases hlt : j < l.length
      · obtain ⟨D1, hD1⟩ : ∃ D1, D1 = (l.drop j).flatMap e := ⟨_, rfl⟩
        obtain ⟨D2, hD2⟩ : ∃ D2, D2 = (l.drop (j + 1)).flatMap e := ⟨_, rfl⟩
        have hcE := HE.out j hlt
        have hrd := hst.out.rd
        have hhc := hst.out.hc
        have hdl : dlen e l j = D1.length := by rw [hD1]; rfl
        rw [hdl]
        rw [← hD1] at hrd hhc hcE
        rw [← hD2] at hcE
        have HCE := Lib.hid hcE
        have HRD := Lib.hid hrd
        have HD1 := Lib.hid hD1
        have HD2 := Lib.hid hD2
        obtain ⟨X, hX⟩ : ∃ X, X = f (l.getD j 0) := ⟨_, rfl⟩
        have HX := Lib.hid hX
        clear hcE hrd hD1 hD2 hX hdl
        go_wp2_with (first
          | (go_at_call 81
             go_must (
               (refine (HCE.out _ Ab cb (HRD.out.alloc (by omega) _) (by simp; omega) hhc hst.out.hm).mono ?_)
               rintro r w4 ⟨A4, c4, rfl, hl4, hm4, hr4, hb4⟩
               rw [← HX.out]
               unfold vl
               have bk := (Blk.new wr 29 zv).below hb4 (by simp)
               have bv4 := (hst.out.bv.alloc (.cells zv.toArray 29)).below hb4 (by simp; omega)
               have hz4 : wr.heap.size < w4.heap.size := by have := hb4.size; simp at this; omega
               obtain ⟨s0, s1, s2, s3, s4, s5⟩ := blk_cells6 bk
               obtain ⟨f0, f1, f2, f3, f4, f5⟩ := blk_froz6 bk
               have v3 : w4.cell? ⟨w.heap.size, 3, none⟩ = some (.slice A' j c') := bv4.cell 3
               have hz40 : w.heap.size < w4.heap.size := by omega
               have hne4 : ¬ w.heap.size = wr.heap.size := by omega
               have BV4 := Lib.hid bv4
               have HB4 := Lib.hid hb4
               have HR4 := Lib.hid hr4
               clear bk bv4 hb4 hr4))
          | (at_builtin
             go_must (
               (refine wpList_append_any _ rfl (.tmp 131) (.tmp 133) 27 rfl w3.heap.size 29 i0 _ 6 88 Tryd.underlying27 hI0 hI1 hI2 hI3 rfl (by omega) (.slice A' j c') j ((l.take j).flatMap fun x => c6 k (f x)) rfl ?_ (w4.heap.size + 1) (some ⟨w4.heap.size, 0, none⟩) 1 1 (c6 k X) rfl ?_ (c6_one _ _) (by simp only [maxLen]; omega) (by omega) (by simp; omega) ?_)
               · exact (own_set6 (own_below (hst.out.own.alloc (.cells zv.toArray 29)) HB4.out) (fun h => by have := (hst.out.own.lt _ h.symm).2; omega) _ _ _ _ _ _).alloc _
               · exact reads_one6 _ 29 (c6 k X) w4.heap.size (by simp) rfl
               intro v1 w5 hown1 hg1 hat1
               obtain ⟨A5, c5, rfl⟩ := own_form hown1
               have hnb : some w.heap.size ≠ (Value.slice A' j c').ownBlock := fun h => by have := (hst.out.own.lt _ h.symm).1; omega
               have bv5 := Blk.grown ((blk_far6 BV4.out hne4 _ _ _ _ _ _).alloc _) hg1 hnb
               have n3 : w5.cell? ⟨w.heap.size, 3, none⟩ = some (.slice A' j c') := bv5.cell 3
               have nf3 := bv5.frozen 3
               have hz5 := bv5.lt
               have BV5 := Lib.hid bv5
               have HO1 := Lib.hid hown1
               have HG1 := Lib.hid hg1
               clear hown1 hg1 hat1 bv5 hnb)))
        go_roundw
        case rel =>
          have hnb : some w.heap.size ≠ (Value.slice A' j c').ownBlock := fun h => by have := (hst.out.own.lt _ h.symm).1; omega
          have hnb1 : some (w.heap.size + 1) ≠ (Value.slice A' j c').ownBlock := fun h => by have := (hst.out.own.lt _ h.symm).1; omega
          have hnb2 : some w1.heap.size ≠ (Value.slice A' j c').ownBlock := fun h => by have := (hst.out.own.lt _ h.symm).1; omega
          have hnw : ∀ kk, (Value.slice A' j c').ownBlock = some kk → w.heap.size ≤ kk := fun kk h => by have := (hst.out.own.lt _ h).1; omega
          have hnB : ∀ kk, (Value.slice A' j c').ownBlock = some kk → B ≤ kk := fun kk h => by have := (hst.out.own.lt _ h).1; omega
          have hbr4 := (hst.out.br.alloc (.cells zv.toArray 29)).below HB4.out (by simp; omega)
          have hbc4 := (hst.out.bc.alloc (.cells zv.toArray 29)).below HB4.out (by simp; omega)
          have hne41 : w.heap.size + 1 ≠ wr.heap.size := by omega
          have hne42 : w1.heap.size ≠ wr.heap.size := by omega
          have hbel4 : Below w.heap.size w w4 := (hst.out.bel.alloc (by omega) _).trans (HB4.out.mono (by simp; omega))
          refine ⟨j + 1, A5, c5, A4, c4, by omega, by go_num, by rw [HD2.out]; rfl, ?_⟩
          refine ⟨?_, ?_, ?_, ?_, ?_, ?_, hm4, ?_, ?_⟩
          · refine own_setI ?_ (fun h => by have := (HO1.out.lt _ h.symm).1; omega)
            rw [fl6_snoc f k l j hlt, ← HX.out]
            exact HO1.out
          · exact BV5.out.set_ 3 _
          · exact (Blk.grown ((blk_far6 hbr4 hne41 _ _ _ _ _ _).alloc _) HG1.out hnb1).far (p := ⟨w.heap.size, 3, none⟩) (by simp) _
          · exact (Blk.grown ((blk_far6 hbc4 hne42 _ _ _ _ _ _).alloc _) HG1.out hnb2).far (p := ⟨w.heap.size, 3, none⟩) (by simp; omega) _
          · rw [← HD2.out]
            exact (((reads_set6 HR4.out (by omega) _ _ _ _ _ _).alloc (by rw [size_set6]; omega) _).grown HG1.out (by simp [size_set6]; omega) hnB).setCell (p := ⟨w.heap.size, 3, none⟩) hB _
          · rw [← HD2.out]; exact hl4
          · exact ((((bel_set6 hbel4 (by omega) _ _ _ _ _ _).alloc (by rw [size_set6]; omega) _).grown HG1.out (by simp [size_set6]; omega) hnw)).setCell (Nat.le_refl _) _
          · have := HG1.out.size
            simp at this
            simp
            omega
        case measure => simp [intOf]; omega
      · obtain rfl : j = l.length := by omega
        have hz : dlen e l l.length = 0 := by simp [dlen]
        have u1 : wr.cell? ⟨w.heap.size, 1, none⟩ = some (.int .u64 0) := hst.out.bv.cell 1
        have u2 : wr.cell? ⟨w.heap.size, 2, none⟩ = some (.string ByteArray.empty) := hst.out.bv.cell 2
        have u4 : wr.cell? ⟨w.heap.size, 4, none⟩ = some (.int .i64 0) := hst.out.bv.cell 4
        have u5 : wr.cell? ⟨w.heap.size, 5, none⟩ = some (.slice none 0 0) := hst.out.bv.cell 5
        obtain ⟨r0, r1, r2, r3, r4, r5⟩ := blk_cells6 hst.out.br
        obtain ⟨f0, f1, f2, f3, f4, f5⟩ := blk_froz6 hst.out.br
        go_wp2
        refine bodyPost_ret (results_cell2 rfl _ rfl (blk_set6 hst.out.br _ _ _ _ _ _) Tryd.underlying29 rfl (by kernel_rfl)) rfl ?_
        refine ⟨A', c', _, _, 0, rfl, by omega, ?_, bel_set6 hst.out.bel (Nat.le_add_right _ 1) _ _ _ _ _ _⟩
        have ho := kr_own (own_set6 (p := w.heap.size + 1) hst.out.own (fun h => by have := (hst.out.own.lt _ h.symm).1; omega) (.int .i64 23) (.int .u64 0) (.string ByteArray.empty) (.slice A' l.length c') (.int .i64 0) (.slice none 0 0))
        rw [List.take_length] at ho
        exact ho.mono (by omega)
end Go.Proofs.YtpkfmcnbodnpeaaDoor
