/- AMQP: impl.WriteString at "a"; what ReadString reads of what PutValue writes. PRINTED by wip/genya_.py. -/
import Derived.Test.YtjjhckbidcdkcaaDoorIz
import Derived.Test.YtjjhckbidcdkcaaDoorHL
namespace Go.Proofs.YtjjhckbidcdkcaaDoor
open Go.RowKit Go.Shelf
set_option linter.unusedVariables false

set_option maxHeartbeats 1000000 in
set_option maxRecDepth 100000 in
theorem writeString_a {T B gb : Nat} (w0 w : World) (hb : Bw w0 w B gb []) (hU : UT T w) :
    Calls Tryd.prog 68 #[.pointer (some ⟨gb, 0, none⟩), .string ⟨#[97]⟩] w fun e w' => e = .returned .nilIface ∧ Bw w0 w' B gb [161, 1, 97] := by
  have HB := Lib.hid hb
  have HU := Lib.hid hU
  have hgb := hb.lt
  have hv : Lib.validD (⟨#[97]⟩ : ByteArray).data.toList = true := by decide +kernel
  clear hb hU
  go_enter Tryd.func68, Tryd.ntmps68
  go_wp2_with (first
      | (go_at_call 92
         go_must (
           (refine Calls.mono (show Calls Tryd.prog 92 #[.string ⟨#[97]⟩] w _ from Any.utf8_ValidString Tryd.vs ⟨#[97]⟩ w (by show (1 : Nat) ≤ _; omega) HU.out.1) ?_)
           rintro e w1 ⟨he, hb1⟩
           rw [hv] at he
           subst he
           have HB1 := Lib.hid (HB.out.more hb1)
           clear hb1))
      | (go_at_call 91
         go_must (
           (refine (Append_calls w0 _ B gb (some ⟨w1.heap.size, 0, none⟩) 2 [] [161, 1] ((reads_list w1 5 [161, 1]).more (by simp)) (HB1.out.alloc _) (by decide)).mono ?_)
           rintro e w2 ⟨rfl, hb2, -⟩
           have HB2 := Lib.hid hb2
           clear hb2))
      | (go_at_call 78
         go_must (
           (refine (AppendString_a w0 w2 B gb [161, 1] HB2.out (by decide)).mono ?_)
           rintro e w3 ⟨rfl, hb3⟩
           have HB3 := Lib.hid hb3
           clear hb3)))
  go_ret
  exact ⟨rfl, HB3.out⟩
set_option maxHeartbeats 1000000 in
theorem WriteString_a {T B gb : Nat} (w0 w : World) (hb : Bw w0 w B gb []) (hU : UT T w) :
    Calls Tryd.prog 43 #[.pointer (some ⟨gb, 0, none⟩), .string ⟨#[97]⟩] w fun e w' => e = .returned .nilIface ∧ Bw w0 w' B gb [161, 1, 97] := by
  have HB := Lib.hid hb
  have HU := Lib.hid hU
  clear hb hU
  go_enter Tryd.func43, Tryd.ntmps43
  go_wp2_with (first
      | (go_at_call 68
         go_must (
           (refine (writeString_a w0 w HB.out HU.out).mono ?_)
           rintro e w1 ⟨rfl, hb1⟩
           have HB1 := Lib.hid hb1
           clear hb1)))
  go_ret
  exact ⟨rfl, HB1.out⟩
/-- The two cells of the results. -/
theorem two_cells_WriteString {w W' : World} {t1 t2 : TypeId} {a b : Value} (hb : Below (w.heap.size + 1 + 1) ((w.alloc (.cells #[a] t1)).alloc (.cells #[b] t2)) W') :
    Blk W' w.heap.size t1 [a] ∧ Blk W' (w.heap.size + 1) t2 [b] := by
  refine ⟨((Blk.new w t1 [a]).alloc _).below hb (by omega), ?_⟩
  have := Blk.new (w.alloc (.cells #[a] t1)) t2 [b]
  rw [show (w.alloc (.cells #[a] t1)).heap.size = w.heap.size + 1 by simp] at this
  exact this.below hb (by omega)
set_option maxHeartbeats 1000000 in
set_option maxRecDepth 100000 in
theorem implWriteString_sample (w : World) (hU : UT w.heap.size w) :
    Calls Tryd.prog 16 #[.string ⟨#[97]⟩] w fun e w' => ∃ g c, e = .returned (.tuple #[.slice (some ⟨g, 0, none⟩) 3 c, .bool true]) ∧ Reads w' w'.heap.size 1 (some ⟨g, 0, none⟩) 3 (bs [161, 1, 97]) ∧ Below w.heap.size w w' := by
  obtain ⟨w0, hw0⟩ : ∃ w0, w0 = ((w.alloc (.cells #[.slice none 0 0] 26)).alloc (.cells #[.bool false] 4)) := ⟨_, rfl⟩
  have hsz : w0.heap.size = w.heap.size + 1 + 1 := by rw [hw0]; simp
  have hbel0 : Below w.heap.size w w0 := by rw [hw0]; exact ((Below.refl _ w).alloc (Nat.le_refl _) _).alloc (by simp) _
  have HW0 := Lib.hid hw0
  have HSZ := Lib.hid hsz
  have HBEL0 := Lib.hid hbel0
  have hbn := bw_new w0
  rw [hw0] at hbn
  rw [← hw0, hsz] at hbn
  have HBN := Lib.hid hbn
  obtain ⟨L, hL⟩ : ∃ L : List Int, L = [161, 1, 97] := ⟨_, rfl⟩
  have hLl : L.length = 3 := by rw [hL]; rfl
  have HL := Lib.hid hL
  have HLL := Lib.hid hLl
  have HUT := Lib.hid (hU.below hbel0)
  clear hw0 hsz hbel0 hbn hL hLl hU
  go_enter_defers Tryd.func16, Tryd.ntmps16
  go_wp2_with (first
    | (go_at_call 43
       go_must (
         (rw [← HW0.out])
         (refine (WriteString_a (T := w.heap.size) w0 _ HBN.out (HUT.out.below ((Below.refl _ w0).alloc (by have := HSZ.out; omega) _))).mono ?_)
         rintro e w3 ⟨rfl, hb3⟩
         rw [← HL.out] at hb3
         have HB3 := Lib.hid hb3
         clear hb3))
    | (go_at_call 39
       go_must (
         (refine (Bytes_all w0 w3 _ _ L HB3.out (by rw [HLL.out]; omega)).mono ?_)
         rintro e w4 ⟨⟨g4, c4, rfl, hr4⟩, n4, rfl⟩
         have HR4 := Lib.hid hr4
         clear hr4))
    | (go_at_call 30
       go_must (
         (refine (copied_b (w3.drewN n4) (some ⟨g4, 0, none⟩) c4 L HR4.out (by rw [HLL.out]; omega)).mono ?_)
         rintro e w5 ⟨g5, cs5, rfl, hb5, hcs5, hcm5, ht5, hB5, hbel5⟩
         have hr5 := bs_reads hb5 hcs5 ht5
         have hbel6 := HB3.out.below.trans ((below_drewN (Below.refl _ w3) n4).trans hbel5 |>.mono (Nat.le_of_lt HB3.out.lt))
         have hbel7 := hbel6
         rw [HW0.out] at hbel7
         obtain ⟨k0, k1⟩ := two_cells_WriteString (w := w) hbel7
         have r0 := k0.cell 0
         have r1 := k1.cell 0
         have f0 := k0.frozen 0
         have f1 := k1.frozen 0
         have z0 := k0.lt
         have z1 := k1.lt
         have hg5 : w.heap.size + 1 + 1 < g5 := Nat.lt_of_lt_of_le HB3.out.lt hB5
         have K0 := Lib.hid k0
         have K1 := Lib.hid k1
         have HR5 := Lib.hid hr5
         have HBEL6 := Lib.hid hbel6
         clear k0 k1 hb5 ht5 hbel5 hbel6 hbel7 hB5 hcs5 hr5)))
  refine leaves_cons (f := 37) (args := #[.pointer (some ⟨w.heap.size, 0, none⟩), .pointer (some ⟨w.heap.size + 1, 0, none⟩)]) (by simp) (by simp [go_sem]) ?_
  refine (noData_idle _ _ _).mono ?_
  rintro e u' w'' ⟨rfl, rfl, rfl⟩
  have s0 : ((w5.setCell ⟨w.heap.size, 0, none⟩ (.slice (some ⟨g5, 0, none⟩) L.length cs5.length)).setCell ⟨w.heap.size + 1, 0, none⟩ (.bool true)).cell? ⟨w.heap.size, 0, none⟩ = some (.slice (some ⟨g5, 0, none⟩) L.length cs5.length) := ((K0.out.set_ 0 _).far (p := ⟨w.heap.size + 1, 0, none⟩) (by simp) _).cell 0
  have s1 : ((w5.setCell ⟨w.heap.size, 0, none⟩ (.slice (some ⟨g5, 0, none⟩) L.length cs5.length)).setCell ⟨w.heap.size + 1, 0, none⟩ (.bool true)).cell? ⟨w.heap.size + 1, 0, none⟩ = some (.bool true) := ((K1.out.far (p := ⟨w.heap.size, 0, none⟩) (by simp) _).set_ 0 _).cell 0
  have hbf : Below w.heap.size w ((w5.setCell ⟨w.heap.size, 0, none⟩ (.slice (some ⟨g5, 0, none⟩) L.length cs5.length)).setCell ⟨w.heap.size + 1, 0, none⟩ (.bool true)) := ((HBEL0.out.trans (HBEL6.out.mono (by omega))).setCell (p := ⟨w.heap.size, 0, none⟩) (by simp) _).setCell (p := ⟨w.heap.size + 1, 0, none⟩) (by simp) _
  refine ⟨.tuple #[.slice (some ⟨g5, 0, none⟩) L.length cs5.length, .bool true], by simp [results, Tryd.results16, go_sem, s0, s1], g5, cs5.length, by rw [HLL.out], ?_, hbf⟩
  have hr : Reads ((w5.setCell ⟨w.heap.size, 0, none⟩ (.slice (some ⟨g5, 0, none⟩) L.length cs5.length)).setCell ⟨w.heap.size + 1, 0, none⟩ (.bool true)) ((w5.setCell ⟨w.heap.size, 0, none⟩ (.slice (some ⟨g5, 0, none⟩) L.length cs5.length)).setCell ⟨w.heap.size + 1, 0, none⟩ (.bool true)).heap.size 1 (some ⟨g5, 0, none⟩) L.length (bs L) := ((HR5.out.far (p := ⟨w.heap.size, 0, none⟩) (by simp; omega) (.slice (some ⟨g5, 0, none⟩) L.length cs5.length)).far (p := ⟨w.heap.size + 1, 0, none⟩) (by simp; omega) (.bool true)).more (by simp)
  rw [HLL.out, HL.out] at hr
  rw [HLL.out]
  exact hr
theorem txt_str (s : ByteArray) : strOfNums (txtL s) = s := by
  have e : ((s.data.toList.map fun b => (b.toNat : Int)).map fun n => UInt8.ofNat n.toNat) = s.data.toList := by
    rw [List.map_map]
    conv => rhs; rw [← List.map_id s.data.toList]
    exact List.map_congr_left fun b _ => by
      show UInt8.ofNat ((b.toNat : Int).toNat) = b
      rw [Int.toNat_natCast]
      exact UInt8.ofNat_toNat
  cases s with
  | mk data =>
    unfold strOfNums txtL
    rw [e]
theorem pS_a : pStr [161, 1, 97] = some ([97], 3) := by decide
theorem txt_forms {sh lo : Int} {l : List Int} {c : Int} {d : List Int} (h : (c, d) ∈ lenP sh lo l (-1)) : (c = sh ∧ l.length ≤ 255 ∧ d = be (l.length : Int) 1 ++ l) ∨ (c = lo ∧ d = be (l.length : Int) 4 ++ l) := by
  have hN : ∀ z, lenN l.length (-1) z = l.length := fun z => by unfold lenN; rw [if_neg (by decide)]
  have hD : ∀ z, lenD l (-1) z = be (l.length : Int) z ++ l := fun z => by
    unfold lenD
    rw [hN, if_neg (by decide), List.append_nil]
  unfold lenP at h
  rw [hN, hD, hD] at h
  rcases List.mem_append.1 h with h | h
  · split at h
    · rename_i hu
      rw [List.mem_singleton] at h
      injection h with h1 h2
      exact .inl ⟨h1, hu.1, h2⟩
    · cases h
  · rw [List.mem_singleton] at h
    injection h with h1 h2
    exact .inr ⟨h1, h2⟩
theorem txtB_whole (z : Nat) (l bl : List Int) (hl : (l.length : Int) < 256 ^ z) : txtB z ((be (l.length : Int) z ++ l) ++ bl) = some (l, 1 + z + l.length) := by
  unfold txtB
  rw [List.append_assoc, take_be, valB_be, Int.emod_eq_of_lt (by omega) hl, if_pos (by rw [List.length_append, be_length]; omega)]
  have hd : (be (l.length : Int) z ++ (l ++ bl)).drop z = l ++ bl := by
    rw [List.drop_append_of_le_length (by rw [be_length]; omega), List.drop_of_length_le (by rw [be_length]; omega)]
    rfl
  simp only [Int.toNat_natCast]
  rw [if_pos (by rw [List.length_append, List.length_append, be_length]; omega), hd, List.take_left']
  rfl
theorem txtB_cut (z m : Nat) (l : List Int) (hl : (l.length : Int) < 256 ^ z) (hm : m < z + l.length) : txtB z ((be (l.length : Int) z ++ l).take m) = none := by
  unfold txtB
  by_cases hz : z ≤ m
  · have ht : (be (l.length : Int) z ++ l).take m = be (l.length : Int) z ++ l.take (m - z) := by
      rw [List.take_append, be_length, List.take_of_length_le (by rw [be_length]; omega)]
    rw [ht, take_be, valB_be, Int.emod_eq_of_lt (by omega) hl, if_pos (by rw [List.length_append, be_length]; omega)]
    simp only [Int.toNat_natCast]
    rw [if_neg (by rw [List.length_append, be_length, List.length_take]; omega)]
  · rw [if_neg (by rw [List.length_take]; omega)]
theorem codes_str {k c : Int} (h0 : 0 ≤ k) (h1 : k < 24) (hk : k ≠ 19 ∧ k ≠ 20) (hc : c ∈ codesK k) : c ≠ 161 ∧ c ≠ 163 ∧ c ≠ 177 ∧ c ≠ 179 := by
  have key : ∀ l : List Int, c ∈ l → (l.all fun x => decide (x ≠ 161 ∧ x ≠ 163 ∧ x ≠ 177 ∧ x ≠ 179)) = true → c ≠ 161 ∧ c ≠ 163 ∧ c ≠ 177 ∧ c ≠ 179 := fun l hl ha => of_decide_eq_true (List.all_eq_true.1 ha c hl)
  rcases (show k = 0 ∨ k = 1 ∨ k = 2 ∨ k = 3 ∨ k = 4 ∨ k = 5 ∨ k = 6 ∨ k = 7 ∨ k = 8 ∨ k = 9 ∨ k = 10 ∨ k = 11 ∨ k = 12 ∨ k = 13 ∨ k = 14 ∨ k = 15 ∨ k = 16 ∨ k = 17 ∨ k = 18 ∨ k = 21 ∨ k = 22 ∨ k = 23 by omega) with rfl | rfl | rfl | rfl | rfl | rfl | rfl | rfl | rfl | rfl | rfl | rfl | rfl | rfl | rfl | rfl | rfl | rfl | rfl | rfl | rfl | rfl <;> exact key _ hc (by decide)
theorem cStr_none {c : Int} (r : List Int) (h : c ≠ 161 ∧ c ≠ 163 ∧ c ≠ 177 ∧ c ≠ 179) : cStr c r = none := by
  unfold cStr
  rw [if_neg h.1, if_neg h.2.1, if_neg h.2.2.1, if_neg h.2.2.2]
theorem str_forms {T : VT} {L : List Pce} {c : Int} {d : List Int} (hF : FitsV T) (hG : PcsG T L) (hm : (c, d) ∈ L) (hk : T.k = 19 ∨ T.k = 20) :
    (txtL T.s).length ≤ 131072 ∧ (((c = 161 ∨ c = 163) ∧ (txtL T.s).length ≤ 255 ∧ d = be ((txtL T.s).length : Int) 1 ++ txtL T.s) ∨ ((c = 177 ∨ c = 179) ∧ d = be ((txtL T.s).length : Int) 4 ++ txtL T.s)) := by
  obtain ⟨_, _, _, hX, _⟩ := hG
  have hs : (txtL T.s).length ≤ 131072 := by
    rw [txtL_length]
    cases T with
    | nil => exact hF.elim
    | mk k u s o n f =>
      obtain ⟨⟨hfld, _⟩, _⟩ := hF
      exact hfld.2.2.2.2.2.2.2
  refine ⟨hs, ?_⟩
  rcases hk with hk | hk
  · rw [hX.2.2.1 hk] at hm
    rcases txt_forms hm with ⟨a, b, e⟩ | ⟨a, e⟩
    · exact .inl ⟨.inl a, b, e⟩
    · exact .inr ⟨.inl a, e⟩
  · rw [hX.2.2.2 hk] at hm
    rcases txt_forms hm with ⟨a, b, e⟩ | ⟨a, e⟩
    · exact .inl ⟨.inr a, b, e⟩
    · exact .inr ⟨.inr a, e⟩
theorem pS_whole {T : VT} {enc : List Int} (bl : List Int) (hF : FitsV T) (hd : T.n true = 0) (hf : FPV T enc) (hk : T.k = 19 ∨ T.k = 20) : pStr (enc ++ bl) = some (txtL T.s, enc.length) := by
  obtain ⟨L, c, d, hG, hm, rfl⟩ := fpv_pce hf hd
  show cStr c (d ++ bl) = _
  obtain ⟨hs, h⟩ := str_forms hF hG hm hk
  rcases h with ⟨h, h2, rfl⟩ | ⟨h, rfl⟩
  · have e := txtB_whole 1 (txtL T.s) bl (by rw [show (256 : Int) ^ 1 = 256 by decide]; omega)
    rw [List.length_cons, List.length_append, be_length, show 1 + (txtL T.s).length + 1 = 1 + 1 + (txtL T.s).length by omega, ← e]
    rcases h with rfl | rfl <;> rfl
  · have e := txtB_whole 4 (txtL T.s) bl (by rw [show (256 : Int) ^ 4 = 4294967296 by decide]; omega)
    rw [List.length_cons, List.length_append, be_length, show 4 + (txtL T.s).length + 1 = 1 + 4 + (txtL T.s).length by omega, ← e]
    rcases h with rfl | rfl <;> rfl
theorem pS_other {T : VT} {enc : List Int} (bl : List Int) (hF : FitsV T) (hd : T.n true = 0) (hf : FPV T enc) (hk : T.k ≠ 19 ∧ T.k ≠ 20) : pStr (enc ++ bl) = none := by
  obtain ⟨L, c, d, hG, hm, rfl⟩ := fpv_pce hf hd
  obtain ⟨h0, h1, _⟩ := fitsV_fld hF
  exact cStr_none _ (codes_str h0 h1 hk (hG.2.2.1 _ hm).1)
theorem pS_cut {T : VT} {enc : List Int} (m : Nat) (hF : FitsV T) (hd : T.n true = 0) (hf : FPV T enc) (hm : m < enc.length) : pStr (enc.take m) = none := by
  obtain ⟨L, c, d, hG, hmem, rfl⟩ := fpv_pce hf hd
  obtain ⟨h0, h1, _⟩ := fitsV_fld hF
  cases m with
  | zero => rfl
  | succ m =>
    rw [List.take_succ_cons]
    show cStr c (d.take m) = none
    rw [List.length_cons] at hm
    by_cases hk : T.k = 19 ∨ T.k = 20
    · obtain ⟨hs, h⟩ := str_forms hF hG hmem hk
      rcases h with ⟨h, h2, rfl⟩ | ⟨h, rfl⟩
      · rw [List.length_append, be_length] at hm
        have e := txtB_cut 1 m (txtL T.s) (by rw [show (256 : Int) ^ 1 = 256 by decide]; omega) (by omega)
        rw [← e]
        rcases h with rfl | rfl <;> rfl
      · rw [List.length_append, be_length] at hm
        have e := txtB_cut 4 m (txtL T.s) (by rw [show (256 : Int) ^ 4 = 4294967296 by decide]; omega) (by omega)
        rw [← e]
        rcases h with rfl | rfl <;> rfl
    · exact cStr_none _ (codes_str h0 h1 ⟨fun e => hk (.inl e), fun e => hk (.inr e)⟩ (hG.2.2.1 _ hmem).1)
end Go.Proofs.YtjjhckbidcdkcaaDoor
