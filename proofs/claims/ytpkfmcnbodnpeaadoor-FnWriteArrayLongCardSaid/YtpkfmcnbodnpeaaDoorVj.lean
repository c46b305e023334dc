/- AMQP: the reference's take, TakeValue, SameValue, and wrote, of arrays of numbers. PRINTED by wip/genvj.py. -/
import Derived.Test.YtpkfmcnbodnpeaaDoorVi
import Derived.StillTailTactics
namespace Go.Proofs.YtpkfmcnbodnpeaaDoor
open Go.RowKit Go.Maps
set_option linter.unusedVariables false

/-- What the elements' contract says. -/
def ElK (B : Nat) (t k : Int) (f : Int → Int) (e : Int → List Int) (l : List Int) : Prop :=
  ∀ (j : Nat), j < l.length → ∀ (W : World) (A : Option Addr) (c : Nat), Reads W B 1 A ((l.drop j).flatMap e).length (bs ((l.drop j).flatMap e)) → B ≤ W.heap.size → ((l.drop j).flatMap e).length ≤ c → c ≤ maxLen → Calls Tryd.prog 81 #[.agg #[.slice none 0 0, .int .i64 t], .slice A ((l.drop j).flatMap e).length c, .int .i64 7] W (Tk W B (vl k (f (l.getD j 0)) ByteArray.empty) ((l.drop (j + 1)).flatMap e))

set_option maxHeartbeats 4000000 in
set_option maxRecDepth 100000 in
theorem take_arr (w : World) (B c s N n : Nat) (A : Option Addr) (b : Int) (r D : List Int) (t k : Int) (f : Int → Int) (e : Int → List Int) (l : List Int) (h : Reads w B 1 A r.length (bs r)) (hB : B ≤ w.heap.size) (hD : IsB r) (hc : r.length ≤ c) (hm : c ≤ maxLen) (hb0 : 0 < b) (hb1 : b ≤ 255)
    (hkb : look2 KINDS b (.lit (.int .i64 0)) = pairD 23 s) (hb69 : b ≠ 69) (hs0 : 0 < s) (hs8 : s ≤ 8) (hrs : s ≤ r.length) (hN : valBE (r.take s) = (N : Int)) (hrD : r.drop s = D) (hDN : D.length = N) (hN0 : 0 < N) (hNm : N ≤ 1000000)
    (hsN : s ≤ N) (hcnt : valBE (D.take s) = (n : Int)) (hrest : D.drop s = t :: l.flatMap e) (hn : n = l.length) (hn3 : n ≤ 300) (ht0 : 0 < t) (ht1 : t ≤ 255) (hkd : ∃ z, look2 KINDS t (.lit (.int .i64 0)) = pairD k z) (hE : ElK B t k f e l) :
    Calls Tryd.prog 81 #[.agg #[.slice none 0 0, .int .i64 b], .slice A r.length c, .int .i64 8] w (Wn w k f l) := by
  have hIB : IsB D := by intro x hx; rw [← hrD] at hx; exact hD x (List.mem_of_mem_drop hx)
  obtain ⟨A2, c2, hl2, hc2, hr2, hcall⟩ := takeBig_abs B c s (s : Int) rfl A r hD hs8 hrs hc hm
  rw [hN, hrD, hDN] at hcall
  rw [hrD, hDN] at hl2 hr2
  have HCALL := Lib.hid hcall
  have HR2 := Lib.hid hr2
  have H := Lib.hid h
  have HKB := Lib.hid hkb
  have HW := Lib.hid (fun (W : World) (hW : Reads W B 1 A2 N (bs D)) (hB' : B ≤ W.heap.size) => within_calls W B c2 s N n A2 D t k (N : Int) (s : Int) f e l rfl rfl hW hB' hIB hN0 hl2 (Nat.le_trans hc2 hm) hNm hs0 hs8 hsN hcnt hrest hn hn3 ht0 ht1 hkd hE)
  have e1 : ((s : Int) == 16) = false := by simp; omega
  have e3 : (b == 69) = false := by simpa using hb69
  clear hcall hr2 h hkb hb69 hN hrD hDN hcnt hrest hn hkd hE
  go_enter Tryd.func81, Tryd.ntmps81
  go_wp2_with (first
    | (go_at_call 105
       go_must (
         (refine (kindOf_yes _ b 23 s (by omega) (by omega) HKB.out).mono ?_)
         rintro r w1 ⟨rfl, hb1'⟩
         obtain ⟨p0, p1, p2, hbel⟩ := take_blks (w := w) (o := [.slice none 0 0, .int .i64 b]) (hb1'.mono (by simp))
         have q0 := p0.cell 0
         have q1 := p0.cell 1
         have z0 := p0.lt
         have z1 := p1.lt
         have P1 := Lib.hid p1
         have P0 := Lib.hid p0
         have HBEL := Lib.hid hbel
         clear hb1' p0 p1 p2 hbel))
    | (go_at_call 106
       go_must (
         (refine (HCALL.out _ ((H.out.below (HBEL.out.mono hB)).alloc (by omega) _)).mono ?_)
         rintro r w2 ⟨rfl, n2, hw2⟩
         have hrd := (((HR2.out w H.out).below (HBEL.out.mono hB)).alloc (by omega) (.cells #[.int .i64 23, .int .u64 0, .string ByteArray.empty, .slice none 0 0, .int .i64 0, .slice none 0 0] 29)).drewN n2
         have hp2 := (P1.out.alloc (.cells #[.int .i64 23, .int .u64 0, .string ByteArray.empty, .slice none 0 0, .int .i64 0, .slice none 0 0] 29)).drewN n2
         have hv2 := (Blk.new w1 29 [.int .i64 23, .int .u64 0, .string ByteArray.empty, .slice none 0 0, .int .i64 0, .slice none 0 0]).drewN n2
         have hbel2 := below_drewN (HBEL.out.alloc (by omega) (.cells #[.int .i64 23, .int .u64 0, .string ByteArray.empty, .slice none 0 0, .int .i64 0, .slice none 0 0] 29)) n2
         have hz2 : w1.heap.size < ((w1.alloc (.cells #[.int .i64 23, .int .u64 0, .string ByteArray.empty, .slice none 0 0, .int .i64 0, .slice none 0 0] 29)).drewN n2).heap.size := hv2.lt
         have hw2' : w2 = (w1.alloc (.cells #[.int .i64 23, .int .u64 0, .string ByteArray.empty, .slice none 0 0, .int .i64 0, .slice none 0 0] 29)).drewN n2 := hw2
         have hp0 := (P0.out.alloc (.cells #[.int .i64 23, .int .u64 0, .string ByteArray.empty, .slice none 0 0, .int .i64 0, .slice none 0 0] 29)).drewN n2
         rw [← hw2'] at hrd hp2 hv2 hbel2 hz2 hp0
         have k0 := hp0.cell 0
         have k1 := hp0.cell 1
         clear hp0
         obtain ⟨v0, v1, v2, v3, v4, v5⟩ := blk_cells6 hv2
         have HP2 := Lib.hid hp2
         have HBEL2 := Lib.hid hbel2
         have HRD := Lib.hid hrd
         clear hw2 hw2' hrd hp2 hv2 hbel2))
    | (go_at_call 107
       go_must (
         (refine (HW.out w2 HRD.out (by omega)).mono ?_)
         rintro r w3 ⟨A3, c3, Ar, cr, o, rfl, hcr, hkr, hb3⟩
         have hp3 := HP2.out.below hb3 (by omega)
         obtain ⟨s0, s1, s2, s3, s4, s5⟩ := blk_cells6 hp3
         obtain ⟨f0, f1, f2, f3, f4, f5⟩ := blk_froz6 hp3
         have z3 := hp3.lt
         have HP3 := Lib.hid hp3
         have HKR := Lib.hid hkr
         have HBEL3 : Hid (Below w.heap.size w w3) := HBEL2.out.trans (hb3.mono (by omega))
         clear hp3 hkr hb3)))
  refine bodyPost_ret (results_cell2 rfl _ rfl (blk_set6 HP3.out _ _ _ _ _ _) Tryd.underlying29 rfl (by kernel_rfl)) rfl ?_
  exact ⟨A3, c3, Ar, cr, o, rfl, hcr, (HKR.out.set6 (by omega) _ _ _ _ _ _).mono (by omega), bel_set6 HBEL3.out (Nat.le_add_right _ 1) _ _ _ _ _ _⟩

set_option maxHeartbeats 4000000 in
set_option maxRecDepth 100000 in
theorem TakeValue_arr (w : World) (B c : Nat) (A : Option Addr) (b : Int) (r : List Int) (k : Int) (f : Int → Int) (l : List Int) (h : Reads w B 1 A (r.length + 1) (bs (b :: r))) (hB : B ≤ w.heap.size) (hb0 : 0 < b) (hb1 : b ≤ 255) (hc : r.length + 1 ≤ c) (hm : c ≤ maxLen)
    (htake : ∀ (W : World) (A : Option Addr) (c : Nat), Reads W B 1 A r.length (bs r) → B ≤ W.heap.size → r.length ≤ c → c ≤ maxLen → Calls Tryd.prog 81 #[.agg #[.slice none 0 0, .int .i64 b], .slice A r.length c, .int .i64 8] W (Wn W k f l)) :
    Calls Tryd.prog 43 #[.slice A (r.length + 1) c, .int .i64 8] w (Wn w k f l) := by
  have H := Lib.hid h
  have HT := Lib.hid htake
  clear h htake
  go_enter Tryd.func43, Tryd.ntmps43
  go_wp2_with (first
    | (go_at_call 80
       go_must (
         (refine (takeConstructor_plain _ B c A b 8 r (H.out.alloc hB _) (by simp; omega) hb0 hb1 hc hm (by omega)).mono ?_)
         rintro r w1 ⟨A1, c1, rfl, hl1, hm1, hr1, hb1'⟩
         have hp := (Blk.new w 29 zv).below hb1' (by simp)
         have hbel : Below w.heap.size w w1 := ((Below.refl _ w).alloc (Nat.le_refl _) _).trans (hb1'.mono (by simp))
         have z1 := hp.lt
         have HP := Lib.hid hp
         have HBEL := Lib.hid hbel
         have HR1 := Lib.hid hr1
         clear hp hbel hb1' hr1))
    | (go_at_call 81
       go_must (
         (refine (HT.out _ A1 c1 (HR1.out.alloc (by omega) _) (by simp; omega) hl1 hm1).mono ?_)
         rintro r w2 ⟨A3, c3, Ar, cr, o, rfl, hcr, hkr, hb2⟩
         have hp2 := (HP.out.alloc (.cells #[.slice none 0 0, .int .i64 b] 136)).below hb2 (by simp; omega)
         obtain ⟨s0, s1, s2, s3, s4, s5⟩ := blk_cells6 hp2
         obtain ⟨f0, f1, f2, f3, f4, f5⟩ := blk_froz6 hp2
         have z2 := hp2.lt
         have hbel2 : Below w.heap.size w w2 := (HBEL.out.alloc (by omega) _).trans (hb2.mono (by simp; omega))
         have hkr2 := hkr.mono (base' := w.heap.size + 1) (by simp; omega)
         have HP2 := Lib.hid hp2
         have HBEL2 := Lib.hid hbel2
         have HKR := Lib.hid hkr2
         clear hp2 hbel2 hb2 hkr hkr2)))
  refine bodyPost_ret (results_cell2 rfl _ rfl (blk_set6 HP2.out _ _ _ _ _ _) Tryd.underlying29 rfl (by kernel_rfl)) rfl ?_
  exact ⟨A3, c3, Ar, cr, o, rfl, hcr, (HKR.out.set6 (by omega) _ _ _ _ _ _).mono (by omega), bel_set6 HBEL2.out (Nat.le_refl _) _ _ _ _ _ _⟩

theorem fl6_at (f : Int → Int) (k : Int) (l : List Int) (j i : Nat) (hj : j < l.length) (hi : i < 6) : (l.flatMap fun x => c6 k (f x))[j * 6 + i]? = (c6 k (f (l.getD j 0)))[i]? := by
  have h1 : (l.flatMap fun x => c6 k (f x)) = ((l.take j).flatMap fun x => c6 k (f x)) ++ (c6 k (f (l.getD j 0)) ++ ((l.drop (j + 1)).flatMap fun x => c6 k (f x))) := by
    rw [← drop_flat (fun x => c6 k (f x)) l j hj, ← List.flatMap_append, List.take_append_drop]
  have h2 : ((l.take j).flatMap fun x => c6 k (f x)).length = j * 6 := by rw [fl6_len, List.length_take]; omega
  rw [h1, List.getElem?_append_right (by omega), h2, Nat.add_sub_cancel_left, List.getElem?_append_left (by simpa [c6] using hi)]

set_option maxHeartbeats 8000000 in
set_option maxRecDepth 100000 in
theorem SameValue_arr (w : World) (Aa Ab : Option Addr) (ca cb ba bb : Nat) (o k : Int) (f : Int → Int) (l : List Int) (hn : l.length ≤ 300) (ha : KR w ba Aa l.length (l.flatMap fun x => c6 k (f x))) (hb : KR w bb Ab l.length (l.flatMap fun x => c6 k (f x))) :
    Calls Tryd.prog 25 #[.agg #[.int .i64 23, .int .u64 0, .string ByteArray.empty, .slice Aa l.length ca, .int .i64 0, .slice none 0 0], .agg #[.int .i64 23, .int .u64 0, .string ByteArray.empty, .slice Ab l.length cb, .int .i64 o, .slice none 0 0]] w fun e w' => e = .returned (.bool true) ∧ Below w.heap.size w w' := by
  have HA := Lib.hid ha
  have HB := Lib.hid hb
  clear ha hb
  go_enter Tryd.func25, Tryd.ntmps25
  go_wp2
  go_loopw [46] (fun i wr => ∃ j : Nat, j ≤ l.length ∧ i = .int .i64 j ∧ Hid (Below (w.heap.size + 1 + 1) ((w.alloc (.cells #[.int .i64 23, .int .u64 0, .string ByteArray.empty, .slice Aa l.length ca, .int .i64 0, .slice none 0 0] 29)).alloc (.cells #[.int .i64 23, .int .u64 0, .string ByteArray.empty, .slice Ab l.length cb, .int .i64 o, .slice none 0 0] 29)) wr)) (fun i _ => l.length - (intOf i).toNat)
  case atStart => exact ⟨0, Nat.zero_le _, rfl, Below.refl _ _⟩
  case round =>
    obtain ⟨j, hj, rfl, hst⟩ := hrel
    have hba : Blk wr w.heap.size 29 [.int .i64 23, .int .u64 0, .string ByteArray.empty, .slice Aa l.length ca, .int .i64 0, .slice none 0 0] := ((Blk.new w 29 [_, _, _, _, _, _]).alloc _).below hst.out (by omega)
    have hbb : Blk wr (w.heap.size + 1) 29 [.int .i64 23, .int .u64 0, .string ByteArray.empty, .slice Ab l.length cb, .int .i64 o, .slice none 0 0] := by
      have := Blk.new (w.alloc (.cells #[.int .i64 23, .int .u64 0, .string ByteArray.empty, .slice Aa l.length ca, .int .i64 0, .slice none 0 0] 29)) 29 [.int .i64 23, .int .u64 0, .string ByteArray.empty, .slice Ab l.length cb, .int .i64 o, .slice none 0 0]
      rw [show (w.alloc (.cells #[.int .i64 23, .int .u64 0, .string ByteArray.empty, .slice Aa l.length ca, .int .i64 0, .slice none 0 0] 29)).heap.size = w.heap.size + 1 by simp] at this
      exact this.below hst.out (by omega)
    have hbel : Below w.heap.size w wr := ((((Below.refl _ w).alloc (Nat.le_refl _) _).alloc (by simp) _)).trans (hst.out.mono (by omega))
    have v3 : wr.cell? ⟨w.heap.size, 3, none⟩ = some (.slice Aa l.length ca) := hba.cell 3
    have x3 : wr.cell? ⟨w.heap.size + 1, 3, none⟩ = some (.slice Ab l.length cb) := hbb.cell 3
    have v5 : wr.cell? ⟨w.heap.size, 5, none⟩ = some (.slice none 0 0) := hba.cell 5
    have zb := hbb.lt
    have hzz : w.heap.size + 1 + 1 ≤ wr.heap.size := zb
    have HBEL := Lib.hid hbel
    clear hba hbb hbel
    by_cases hlt : j < l.length
    · obtain ⟨ga, hga, _, hla, hca⟩ := HA.out.2 (by omega)
      obtain ⟨gb, hgb, _, hlb, hcb⟩ := HB.out.2 (by omega)
      subst hga
      subst hgb
      obtain ⟨X, hX⟩ : ∃ X, X = f (l.getD j 0) := ⟨_, rfl⟩
      have hbelc : ∀ (g : Nat) (i : Nat) {u : Value}, g < w.heap.size → w.cell? ⟨g, i, none⟩ = some u → wr.cell? ⟨g, i, none⟩ = some u := fun g i u hg hu => (HBEL.out.cell (p := ⟨g, i, none⟩) hg).trans hu
      have hat : ∀ i, i < 6 → (l.flatMap fun x => c6 k (f x))[j * 6 + i]? = (c6 k X)[i]? := fun i hi => by rw [hX]; exact fl6_at f k l j i hlt hi
      have ca0 : wr.cell? ⟨ga, j * 6, none⟩ = some (.int .i64 k) := hbelc ga _ hla (hca (j * 6 + 0) _ (hat 0 (by omega)))
      have ca1 : wr.cell? ⟨ga, j * 6 + 1, none⟩ = some (.int .u64 X) := hbelc ga _ hla (hca (j * 6 + 1) _ (hat 1 (by omega)))
      have ca2 : wr.cell? ⟨ga, j * 6 + 2, none⟩ = some (.string ByteArray.empty) := hbelc ga _ hla (hca (j * 6 + 2) _ (hat 2 (by omega)))
      have ca3 : wr.cell? ⟨ga, j * 6 + 3, none⟩ = some (.slice none 0 0) := hbelc ga _ hla (hca (j * 6 + 3) _ (hat 3 (by omega)))
      have ca4 : wr.cell? ⟨ga, j * 6 + 4, none⟩ = some (.int .i64 0) := hbelc ga _ hla (hca (j * 6 + 4) _ (hat 4 (by omega)))
      have ca5 : wr.cell? ⟨ga, j * 6 + 5, none⟩ = some (.slice none 0 0) := hbelc ga _ hla (hca (j * 6 + 5) _ (hat 5 (by omega)))
      have cb0 : wr.cell? ⟨gb, j * 6, none⟩ = some (.int .i64 k) := hbelc gb _ hlb (hcb (j * 6 + 0) _ (hat 0 (by omega)))
      have cb1 : wr.cell? ⟨gb, j * 6 + 1, none⟩ = some (.int .u64 X) := hbelc gb _ hlb (hcb (j * 6 + 1) _ (hat 1 (by omega)))
      have cb2 : wr.cell? ⟨gb, j * 6 + 2, none⟩ = some (.string ByteArray.empty) := hbelc gb _ hlb (hcb (j * 6 + 2) _ (hat 2 (by omega)))
      have cb3 : wr.cell? ⟨gb, j * 6 + 3, none⟩ = some (.slice none 0 0) := hbelc gb _ hlb (hcb (j * 6 + 3) _ (hat 3 (by omega)))
      have cb4 : wr.cell? ⟨gb, j * 6 + 4, none⟩ = some (.int .i64 0) := hbelc gb _ hlb (hcb (j * 6 + 4) _ (hat 4 (by omega)))
      have cb5 : wr.cell? ⟨gb, j * 6 + 5, none⟩ = some (.slice none 0 0) := hbelc gb _ hlb (hcb (j * 6 + 5) _ (hat 5 (by omega)))
      have HX := Lib.hid hX
      clear hca hcb hat hX hbelc
      have hj1 : (0 : Int) ≤ (j : Int) := by omega
      have hj2 : (j : Int) < (l.length : Int) := by omega
      go_wp2
      go_still_tail 10, (by kernel_rfl)
      change wpList _ _ _ _ _ wr.drew
      go_wp2_with (
        (go_at_call 25)
        go_must (
          (refine (SameValue_flat wr.drew k X ByteArray.empty).mono ?_)
          rintro r w2 ⟨rfl, hb2⟩
          have HB2 := Lib.hid (hst.out.drew.trans (hb2.mono (show w.heap.size + 1 + 1 ≤ wr.heap.size from hzz)))
          clear hb2))
      go_roundw
      case rel => exact ⟨j + 1, by omega, by go_num, HB2.out⟩
      case measure => simp [intOf]; omega
    · obtain rfl : j = l.length := by omega
      go_wp2
      go_quiet (fail)
      go_wp2
      go_ret
      exact ⟨rfl, by first | exact below_drewN HBEL.out nq | exact HBEL.out⟩

set_option maxHeartbeats 4000000 in
set_option maxRecDepth 100000 in
theorem wrote_arr (w : World) (B c ca ba : Nat) (A Aa : Option Addr) (b : Int) (r : List Int) (k : Int) (f : Int → Int) (l : List Int) (h : Reads w B 1 A (r.length + 1) (bs (b :: r))) (hB : B ≤ w.heap.size) (hb0 : 0 < b) (hb1 : b ≤ 255) (hc : r.length + 1 ≤ c) (hm : c ≤ maxLen) (hn : l.length ≤ 300) (hka : KR w ba Aa l.length (l.flatMap fun x => c6 k (f x)))
    (htake : ∀ (W : World) (A : Option Addr) (c : Nat), Reads W B 1 A r.length (bs r) → B ≤ W.heap.size → r.length ≤ c → c ≤ maxLen → Calls Tryd.prog 81 #[.agg #[.slice none 0 0, .int .i64 b], .slice A r.length c, .int .i64 8] W (Wn W k f l)) :
    Calls Tryd.prog 14 #[.slice A (r.length + 1) c, .bool true, .agg #[.int .i64 23, .int .u64 0, .string ByteArray.empty, .slice Aa l.length ca, .int .i64 0, .slice none 0 0]] w fun e w' => e = .returned (.bool true) ∧ Below w.heap.size w w' := by
  have H := Lib.hid h
  have HT := Lib.hid htake
  have HKA := Lib.hid hka
  clear h htake hka
  go_enter Tryd.func14, Tryd.ntmps14
  go_wp2_with (first
    | (go_at_call 43
       go_must (
         (refine (TakeValue_arr _ B c A b r k f l (H.out.alloc hB _) (by simp; omega) hb0 hb1 hc hm HT.out).mono ?_)
         rintro r w1 ⟨A3, c3, Ar, cr, o, rfl, hcr, hkr, hb1'⟩
         have hp := (Blk.new w 29 [.int .i64 23, .int .u64 0, .string ByteArray.empty, .slice Aa l.length ca, .int .i64 0, .slice none 0 0]).below hb1' (by simp)
         have hbel : Below w.heap.size w w1 := ((Below.refl _ w).alloc (Nat.le_refl _) _).trans (hb1'.mono (by simp))
         obtain ⟨s0, s1, s2, s3, s4, s5⟩ := blk_cells6 hp
         have z1 := hp.lt
         have HBEL := Lib.hid hbel
         have HKR := Lib.hid hkr
         clear hp hbel hb1' hkr))
    | (go_at_call 25
       go_must (
         (refine (SameValue_arr _ Aa A3 ca c3 ba _ o k f l hn ((HKA.out.below HBEL.out).alloc _) (HKR.out.alloc _)).mono ?_)
         rintro r w2 ⟨rfl, hb2⟩
         have HB2 : Hid (Below w.heap.size w w2) := (HBEL.out.alloc (by omega) _).trans (hb2.mono (by simp; omega))
         clear hb2)))
  go_ret
  exact ⟨rfl, HB2.out⟩
end Go.Proofs.YtpkfmcnbodnpeaaDoor
