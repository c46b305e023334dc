/- AMQP: arrays of longs: taken by the reference; ArrayAsked. PRINTED by wip/genvm.py. -/
import Derived.Test.YtpkfmcnbodnpeaaDoorVk
namespace Go.Proofs.YtpkfmcnbodnpeaaDoor
open Go.RowKit Go.Maps
set_option linter.unusedVariables false

set_option maxHeartbeats 4000000 in
set_option maxRecDepth 100000 in
theorem take_l1 (w : World) (B c : Nat) (A : Option Addr) (lv x U : Int) (r : List Int) (h : Reads w B 1 A r.length (bs r)) (hB : B ≤ w.heap.size) (hl : IsB r) (hc : r.length ≤ c) (hm : c ≤ maxLen)
    (hr : 1 ≤ r.length) (hU : U = valBE (r.take 1)) (hU0 : 0 ≤ U) (hU1 : U ≤ 18446744073709551615) (hx0 : -9223372036854775808 ≤ x) (hx1 : x ≤ 9223372036854775807) (hsh : wrap64 (IntKind.u64.wrap (U * 72057594037927936)) / 72057594037927936 = x) :
    Calls Tryd.prog 81 #[.agg #[.slice none 0 0, .int .i64 85], .slice A r.length c, .int .i64 lv] w (Tk w B (vl 9 (IntKind.u64.wrap x) ByteArray.empty) (r.drop 1)) := by
  obtain ⟨A2, c2, hl2, hc2, hr2, hcall⟩ := takeBig_abs B c 1 (1 : Int) rfl A r hl (by omega) hr hc hm
  obtain ⟨R2, hR2⟩ : ∃ R2, R2 = r.drop 1 := ⟨_, rfl⟩
  rw [← hU, ← hR2] at hcall
  rw [← hR2] at hl2 hr2 ⊢
  have HCALL := Lib.hid hcall
  have HR2 := Lib.hid hr2
  have H := Lib.hid h
  have HKD := Lib.hid (show look2 KINDS 85 (.lit (.int .i64 0)) = pairD 9 1 from by rfl)
  clear hcall hr2 h hU hR2
  by_cases hdum : True
  · go_enter Tryd.func81, Tryd.ntmps81
    go_wp2_with (first
      | (go_at_call 105
         go_must (
           (refine (kindOf_yes _ 85 9 1 (by omega) (by omega) HKD.out).mono ?_)
           rintro e w1 ⟨rfl, hb1'⟩
           obtain ⟨p0, p1, p2, hbel⟩ := take_blks (w := w) (o := [.slice none 0 0, .int .i64 85]) (hb1'.mono (by simp))
           have q0 := p0.cell 0
           have q1 := p0.cell 1
           have z0 := p0.lt
           obtain ⟨s0, s1, s2, s3, s4, s5⟩ := blk_cells6 p1
           obtain ⟨f0, f1, f2, f3, f4, f5⟩ := blk_froz6 p1
           have z1 := p1.lt
           have P1 := Lib.hid p1
           have HBEL := Lib.hid hbel
           clear hb1' p0 p1 p2 hbel))
      | (go_at_call 106
         go_must (
           (refine (HCALL.out _ ((H.out.below (HBEL.out.mono hB)).alloc (by omega) _)).mono ?_)
           rintro e w2 ⟨rfl, n2, rfl⟩)))
    have hww1 : w.heap.size ≤ w1.heap.size := by omega
    have hbw1 : B ≤ w1.heap.size := by omega
    refine bodyPost_ret (results_cell2 rfl _ rfl (blk_set6 (((P1.out.alloc _).drewN n2).far (p := ⟨w1.heap.size, 1, none⟩) (Nat.ne_of_lt z1) _) _ _ _ _ _ _) Tryd.underlying29 rfl (by kernel_rfl)) rfl ?_
    exact ⟨_, _, rfl, by omega, by omega, reads_set6 (((((HR2.out w H.out).below (HBEL.out.mono hB)).alloc hbw1 _).drewN n2).setCell (p := ⟨w1.heap.size, 1, none⟩) hbw1 _) (Nat.le_trans hB (Nat.le_add_right _ 1)) _ _ _ _ _ _, bel_set6 ((below_drewN (HBEL.out.alloc hww1 _) n2).setCell (p := ⟨w1.heap.size, 1, none⟩) hww1 _) (Nat.le_add_right _ 1) _ _ _ _ _ _⟩
  · exact absurd trivial hdum

set_option maxHeartbeats 4000000 in
set_option maxRecDepth 100000 in
theorem take_l8 (w : World) (B c : Nat) (A : Option Addr) (lv x U : Int) (r : List Int) (h : Reads w B 1 A r.length (bs r)) (hB : B ≤ w.heap.size) (hl : IsB r) (hc : r.length ≤ c) (hm : c ≤ maxLen)
    (hr : 8 ≤ r.length) (hU : U = valBE (r.take 8)) (hU0 : 0 ≤ U) (hU1 : U ≤ 18446744073709551615) (hx0 : -9223372036854775808 ≤ x) (hx1 : x ≤ 9223372036854775807) (hsh : wrap64 U = x) :
    Calls Tryd.prog 81 #[.agg #[.slice none 0 0, .int .i64 129], .slice A r.length c, .int .i64 lv] w (Tk w B (vl 9 (IntKind.u64.wrap x) ByteArray.empty) (r.drop 8)) := by
  obtain ⟨A2, c2, hl2, hc2, hr2, hcall⟩ := takeBig_abs B c 8 (8 : Int) rfl A r hl (by omega) hr hc hm
  obtain ⟨R2, hR2⟩ : ∃ R2, R2 = r.drop 8 := ⟨_, rfl⟩
  rw [← hU, ← hR2] at hcall
  rw [← hR2] at hl2 hr2 ⊢
  have HCALL := Lib.hid hcall
  have HR2 := Lib.hid hr2
  have H := Lib.hid h
  have HKD := Lib.hid (show look2 KINDS 129 (.lit (.int .i64 0)) = pairD 9 8 from by rfl)
  clear hcall hr2 h hU hR2
  by_cases hdum : True
  · go_enter Tryd.func81, Tryd.ntmps81
    go_wp2_with (first
      | (go_at_call 105
         go_must (
           (refine (kindOf_yes _ 129 9 8 (by omega) (by omega) HKD.out).mono ?_)
           rintro e w1 ⟨rfl, hb1'⟩
           obtain ⟨p0, p1, p2, hbel⟩ := take_blks (w := w) (o := [.slice none 0 0, .int .i64 129]) (hb1'.mono (by simp))
           have q0 := p0.cell 0
           have q1 := p0.cell 1
           have z0 := p0.lt
           obtain ⟨s0, s1, s2, s3, s4, s5⟩ := blk_cells6 p1
           obtain ⟨f0, f1, f2, f3, f4, f5⟩ := blk_froz6 p1
           have z1 := p1.lt
           have P1 := Lib.hid p1
           have HBEL := Lib.hid hbel
           clear hb1' p0 p1 p2 hbel))
      | (go_at_call 106
         go_must (
           (refine (HCALL.out _ ((H.out.below (HBEL.out.mono hB)).alloc (by omega) _)).mono ?_)
           rintro e w2 ⟨rfl, n2, rfl⟩)))
    have hww1 : w.heap.size ≤ w1.heap.size := by omega
    have hbw1 : B ≤ w1.heap.size := by omega
    refine bodyPost_ret (results_cell2 rfl _ rfl (blk_set6 (((P1.out.alloc _).drewN n2).far (p := ⟨w1.heap.size, 1, none⟩) (Nat.ne_of_lt z1) _) _ _ _ _ _ _) Tryd.underlying29 rfl (by kernel_rfl)) rfl ?_
    exact ⟨_, _, rfl, by omega, by omega, reads_set6 (((((HR2.out w H.out).below (HBEL.out.mono hB)).alloc hbw1 _).drewN n2).setCell (p := ⟨w1.heap.size, 1, none⟩) hbw1 _) (Nat.le_trans hB (Nat.le_add_right _ 1)) _ _ _ _ _ _, bel_set6 ((below_drewN (HBEL.out.alloc hww1 _) n2).setCell (p := ⟨w1.heap.size, 1, none⟩) hww1 _) (Nat.le_add_right _ 1) _ _ _ _ _ _⟩
  · exact absurd trivial hdum


theorem hsh1 (x : Int) (h0 : -128 ≤ x) (h1 : x ≤ 127) : wrap64 (IntKind.u64.wrap (IntKind.u8.wrap x * 72057594037927936)) / 72057594037927936 = x := by
  rw [IntKind.wrap_u64, IntKind.wrap_u8]
  unfold wrap64
  omega
theorem hsh8 (x : Int) (h0 : -9223372036854775808 ≤ x) (h1 : x ≤ 9223372036854775807) : wrap64 (IntKind.u64.wrap x) = x := by
  rw [IntKind.wrap_u64]
  unfold wrap64
  omega

theorem elK_l1 (B : Nat) (l : List Int) (hl : ∀ x ∈ l, -128 ≤ x ∧ x ≤ 127) : ElK B 85 9 (fun x => IntKind.u64.wrap x) (fun x => [IntKind.u8.wrap x]) l := by
  intro j hj W A c h hB hc hm
  have hx := hl _ (getD_mem2 l j hj)
  have hd : (l.drop j).flatMap (fun x => [IntKind.u8.wrap x]) = [IntKind.u8.wrap (l.getD j 0)] ++ (l.drop (j + 1)).flatMap (fun x => [IntKind.u8.wrap x]) := drop_flat (fun x => [IntKind.u8.wrap x]) l j hj
  have hw : ∀ x : Int, 0 ≤ IntKind.u8.wrap x ∧ IntKind.u8.wrap x ≤ 255 := fun x => by rw [IntKind.wrap_u8]; omega
  have hib : IsB ((l.drop j).flatMap (fun x => [IntKind.u8.wrap x])) := by
    intro y hy
    simp only [List.mem_flatMap, List.mem_singleton] at hy
    obtain ⟨x, _, rfl⟩ := hy
    exact hw x
  have hle : 1 ≤ ((l.drop j).flatMap (fun x => [IntKind.u8.wrap x])).length := by rw [hd, List.length_append]; simp
  have e1 : ((l.drop j).flatMap (fun x => [IntKind.u8.wrap x])).take 1 = [IntKind.u8.wrap (l.getD j 0)] := by rw [hd]; rfl
  have e2 : ((l.drop j).flatMap (fun x => [IntKind.u8.wrap x])).drop 1 = (l.drop (j + 1)).flatMap (fun x => [IntKind.u8.wrap x]) := by rw [hd]; rfl
  have hv : IntKind.u8.wrap (l.getD j 0) = valBE (((l.drop j).flatMap (fun x => [IntKind.u8.wrap x])).take 1) := by rw [e1]; simp [valBE]
  have hw0 := hw (l.getD j 0)
  have ht := take_l1 W B c A 7 (l.getD j 0) (IntKind.u8.wrap (l.getD j 0)) _ h hB hib hc hm hle hv (by omega) (by omega) (by omega) (by omega) (hsh1 _ hx.1 hx.2)
  rw [e2] at ht
  exact ht

theorem elK_l8 (B : Nat) (l : List Int) (hl : ∀ x ∈ l, -9223372036854775808 ≤ x ∧ x ≤ 9223372036854775807) : ElK B 129 9 (fun x => IntKind.u64.wrap x) (fun x => be (IntKind.u64.wrap x) 8) l := by
  intro j hj W A c h hB hc hm
  have hx := hl _ (getD_mem2 l j hj)
  have hl8 : ∀ x : Int, (be (IntKind.u64.wrap x) 8).length = 8 := fun x => be_length _ _
  have hd : (l.drop j).flatMap (fun x => be (IntKind.u64.wrap x) 8) = be (IntKind.u64.wrap (l.getD j 0)) 8 ++ (l.drop (j + 1)).flatMap (fun x => be (IntKind.u64.wrap x) 8) := drop_flat (fun x => be (IntKind.u64.wrap x) 8) l j hj
  have hib : IsB ((l.drop j).flatMap (fun x => be (IntKind.u64.wrap x) 8)) := by
    intro y hy
    simp only [List.mem_flatMap] at hy
    obtain ⟨x, _, hy⟩ := hy
    exact isB_be _ _ y hy
  have hle : 8 ≤ ((l.drop j).flatMap (fun x => be (IntKind.u64.wrap x) 8)).length := by rw [hd, List.length_append, hl8]; omega
  have e1 : ((l.drop j).flatMap (fun x => be (IntKind.u64.wrap x) 8)).take 8 = be (IntKind.u64.wrap (l.getD j 0)) 8 := by rw [hd, List.take_left' (hl8 _)]
  have e2 : ((l.drop j).flatMap (fun x => be (IntKind.u64.wrap x) 8)).drop 8 = (l.drop (j + 1)).flatMap (fun x => be (IntKind.u64.wrap x) 8) := by rw [hd, List.drop_left' (hl8 _)]
  have hr := u64_wrap_range (l.getD j 0)
  have hv : IntKind.u64.wrap (l.getD j 0) = valBE (((l.drop j).flatMap (fun x => be (IntKind.u64.wrap x) 8)).take 8) := by
    rw [e1, valBE_be]
    simp only [Int.reducePow]
    omega
  have ht := take_l8 W B c A 7 (l.getD j 0) (IntKind.u64.wrap (l.getD j 0)) _ h hB hib hc hm hle hv hr.1 hr.2 hx.1 hx.2 (hsh8 _ hx.1 hx.2)
  rw [e2] at ht
  exact ht

/-- A list of longs that is asked, as an array: written, and read. -/
theorem arrI (l : List Int) (hl : ∀ x ∈ l, -9223372036854775808 ≤ x ∧ x ≤ 9223372036854775807) (hask : (∀ x ∈ l, x ≤ 127) → ∀ x ∈ l, -128 ≤ x) (hn : l.length ≤ 300) :
    ∃ L : List Int, 0 < L.length ∧ L.length ≤ 900000 ∧
      (∀ (W0 W : World) (gb c : Nat) (A : Option Addr), RowN W 2 A .i64 l → Bw W0 W gb gb [] → Calls Tryd.prog 47 #[.slice A l.length c, .pointer (some ⟨gb, 0, none⟩)] W fun e w' => e = .returned .nilIface ∧ Bw W0 w' gb gb L) ∧
      (∀ (W : World) (B c ca ba : Nat) (A Aa : Option Addr), Reads W B 1 A L.length (bs L) → B ≤ W.heap.size → L.length ≤ c → c ≤ maxLen → KR W ba Aa l.length (l.flatMap fun x => c6 9 (IntKind.u64.wrap x)) →
        Calls Tryd.prog 14 #[.slice A L.length c, .bool true, .agg #[.int .i64 23, .int .u64 0, .string ByteArray.empty, .slice Aa l.length ca, .int .i64 0, .slice none 0 0]] W fun e w' => e = .returned (.bool true) ∧ Below W.heap.size W w') := by
  rcases first_big 127 l with h | ⟨p, hp, hbig, hsm⟩
  · have hl2 : ∀ x ∈ l, -128 ≤ x ∧ x ≤ 127 := fun x hx => ⟨hask h x hx, h x hx⟩
    have hw : ∀ x : Int, 0 ≤ IntKind.u8.wrap x ∧ IntKind.u8.wrap x ≤ 255 := fun x => by rw [IntKind.wrap_u8]; omega
    refine ⟨hdr l.length 1 85 ++ l.flatMap (fun x => [IntKind.u8.wrap x]), ?_, ?_, fun W0 W gb c A hr hb => MarshalI_small W0 W gb gb c A l hr hb hn hl2, fun W B c ca ba A Aa hr hB hc hm hk => ?_⟩
    · rw [List.length_append]; have := hdr_pos l.length 1 85; omega
    · rw [List.length_append]
      have h1 := hdr_len l.length 1 85
      have h2 := flat_len (fun x => [IntKind.u8.wrap x]) 1 (fun x => Nat.le_refl _) l
      omega
    · exact wrote_hdr W B c ca ba 1 85 A Aa 9 (fun x => IntKind.u64.wrap x) (fun x => [IntKind.u8.wrap x]) l hn (by omega) (by omega) (by omega) (by omega) (by rfl) (by omega) (elK_l1 B l hl2) (fun x hx => ⟨rfl, isB_cons (hw x).1 (hw x).2 isB_nil⟩) hr hB hc hm hk
  · refine ⟨hdr l.length 8 129 ++ l.flatMap (fun x => be (IntKind.u64.wrap x) 8), ?_, ?_, fun W0 W gb c A hr hb => MarshalI_big W0 W gb gb c A l hr hb hn hl p hp hbig hsm, fun W B c ca ba A Aa hr hB hc hm hk => ?_⟩
    · rw [List.length_append]; have := hdr_pos l.length 8 129; omega
    · rw [List.length_append]
      have h1 := hdr_len l.length 8 129
      have h2 := flat_len (fun x => be (IntKind.u64.wrap x) 8) 8 (fun x => by rw [be_length]; exact Nat.le_refl _) l
      omega
    · exact wrote_hdr W B c ca ba 8 129 A Aa 9 (fun x => IntKind.u64.wrap x) (fun x => be (IntKind.u64.wrap x) 8) l hn (by omega) (by omega) (by omega) (by omega) (by rfl) (by omega) (elK_l8 B l hl) (fun x hx => ⟨be_length _ _, isB_be _ _⟩) hr hB hc hm hk

def lowB (l : List Int) : Bool := l.any fun x => decide (x < -128)
def highB (l : List Int) : Bool := l.any fun x => decide (127 < x)
theorem lowB_snoc (l : List Int) (j : Nat) (h : j < l.length) : lowB (l.take (j + 1)) = (lowB (l.take j) || decide (l.getD j 0 < -128)) := by
  unfold lowB
  rw [List.take_succ_eq_append_getElem h, List.any_append, List.getD_eq_getElem?_getD, List.getElem?_eq_getElem h]
  simp
theorem highB_snoc (l : List Int) (j : Nat) (h : j < l.length) : highB (l.take (j + 1)) = (highB (l.take j) || decide (127 < l.getD j 0)) := by
  unfold highB
  rw [List.take_succ_eq_append_getElem h, List.any_append, List.getD_eq_getElem?_getD, List.getElem?_eq_getElem h]
  simp

set_option maxHeartbeats 8000000 in
set_option maxRecDepth 100000 in
theorem ArrayAsked_calls (w : World) (A : Option Addr) (c ba : Nat) (l : List Int) (hl : ∀ x ∈ l, -9223372036854775808 ≤ x ∧ x ≤ 9223372036854775807) (hn : l.length ≤ 300) (hk : KR w ba A l.length (l.flatMap fun x => c6 9 (IntKind.u64.wrap x))) :
    Calls Tryd.prog 18 #[.slice A l.length c] w fun e w' => e = .returned (.bool (!(lowB l) || highB l)) ∧ Below w.heap.size w w' := by
  have HK := Lib.hid hk
  have HL := Lib.hid hl
  clear hk hl
  go_enter Tryd.func18, Tryd.ntmps18
  go_wp2
  go_loopw [3, 4, 10] (fun a b i wr => ∃ (j : Nat) (bl bh : Bool), j ≤ l.length ∧ i = .int .i64 j ∧ a = .bool bl ∧ b = .bool bh ∧ Hid (bl = lowB (l.take j) ∧ bh = highB (l.take j) ∧ Below w.heap.size w wr)) (fun _ _ i _ => l.length - (intOf i).toNat)
  case atStart => exact ⟨0, false, false, Nat.zero_le _, rfl, rfl, rfl, rfl, rfl, Below.refl _ _⟩
  case round =>
    obtain ⟨j, bl, bh, hj, rfl, rfl, rfl, hst⟩ := hrel
    by_cases hlt : j < l.length
    · obtain ⟨ga, hga, _, hla, hca⟩ := HK.out.2 (by omega)
      subst hga
      obtain ⟨hx0, hx1⟩ := HL.out (l.getD j 0) (getD_mem2 l j hlt)
      have hsl := lowB_snoc l j hlt
      have hsh := highB_snoc l j hlt
      have hbelc : ∀ (i : Nat) {u : Value}, w.cell? ⟨ga, i, none⟩ = some u → wr.cell? ⟨ga, i, none⟩ = some u := fun i u hu => (hst.out.2.2.cell (p := ⟨ga, i, none⟩) hla).trans hu
      have hat : ∀ i, i < 6 → (l.flatMap fun x => c6 9 (IntKind.u64.wrap x))[j * 6 + i]? = (c6 9 (IntKind.u64.wrap (l.getD j 0)))[i]? := fun i hi => fl6_at (fun x => IntKind.u64.wrap x) 9 l j i hlt hi
      have hw := hsh8 (l.getD j 0) hx0 hx1
      obtain ⟨x, hX⟩ : ∃ x, x = l.getD j 0 := ⟨_, rfl⟩
      rw [← hX] at hat hw hsl hsh hx0 hx1
      obtain ⟨U, hU⟩ : ∃ U, U = IntKind.u64.wrap x := ⟨_, rfl⟩
      rw [← hU] at hat hw
      have k0 : wr.cell? ⟨ga, j * 6, none⟩ = some (.int .i64 9) := hbelc _ (hca (j * 6 + 0) _ (hat 0 (by omega)))
      have k1 : wr.cell? ⟨ga, j * 6 + 1, none⟩ = some (.int .u64 U) := hbelc _ (hca (j * 6 + 1) _ (hat 1 (by omega)))
      have k2 : wr.cell? ⟨ga, j * 6 + 2, none⟩ = some (.string ByteArray.empty) := hbelc _ (hca (j * 6 + 2) _ (hat 2 (by omega)))
      have k3 : wr.cell? ⟨ga, j * 6 + 3, none⟩ = some (.slice none 0 0) := hbelc _ (hca (j * 6 + 3) _ (hat 3 (by omega)))
      have k4 : wr.cell? ⟨ga, j * 6 + 4, none⟩ = some (.int .i64 0) := hbelc _ (hca (j * 6 + 4) _ (hat 4 (by omega)))
      have k5 : wr.cell? ⟨ga, j * 6 + 5, none⟩ = some (.slice none 0 0) := hbelc _ (hca (j * 6 + 5) _ (hat 5 (by omega)))
      have hsw := hst.out.2.2.size
      have HSL := Lib.hid hsl
      have HSH := Lib.hid hsh
      clear hat hca hbelc hU hX hsl hsh
      have hq : (x < -128 ∧ ¬ 127 < x) ∨ (¬ x < -128 ∧ 127 < x) ∨ (¬ x < -128 ∧ ¬ 127 < x) := by omega
      rcases hq with ⟨h1, h2⟩ | ⟨h1, h2⟩ | ⟨h1, h2⟩
      all_goals
        have d1 : decide (x < -128) = decide (x < -128) := rfl
        clear d1
        cases bl <;> cases bh
      all_goals
        go_wp2
        go_roundw
        case rel => exact ⟨j + 1, _, _, by omega, by go_num, rfl, rfl, by rw [HSL.out, ← hst.out.1]; simp [h1], by rw [HSH.out, ← hst.out.2.1]; simp [h2], hst.out.2.2.alloc hsw _⟩
        case measure => simp [intOf]; omega
    · obtain rfl : j = l.length := by omega
      have hf := hst.out
      rw [List.take_length] at hf
      obtain ⟨hf1, hf2, hf3⟩ := hf
      have HF1 := Lib.hid hf1
      have HF2 := Lib.hid hf2
      have HF3 := Lib.hid hf3
      clear hf1 hf2 hf3
      cases bl <;> cases bh
      all_goals
        go_wp2
        go_ret
        exact ⟨by rw [← HF1.out, ← HF2.out]; rfl, HF3.out⟩
end Go.Proofs.YtpkfmcnbodnpeaaDoor
