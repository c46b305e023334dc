/- AMQP: uuids: written, and taken by the reference. PRINTED by wip/genvf.py. -/
import Derived.Test.YtpkfmcnbodnpeaaDoorVe
import Derived.Deep.WholeRow
import Derived.Lib.BufferWrite
import Derived.Deep.MidRow
namespace Go.Proofs.YtpkfmcnbodnpeaaDoor
open Go.RowKit Go.Maps
set_option linter.unusedVariables false

theorem conv_reads {P : Program} {w : World} {B n c : Nat} {A : Option Addr} {l : List Int} (h : Reads w B 1 A n (bs l)) (src e dst : TypeId) (hs : P.underlying src = some (.slice e)) (he : P.underlying e = some (.int .u8)) (hd : P.underlying dst = some .string) :
    (convert src dst (.slice A n c)).run P w = .ok (.string (strOfNums l)) w := by
  have hn := h.bytes
  rcases A with _ | ad
  · have h0 : n = 0 := by
      rcases Nat.eq_zero_or_pos n with h0 | h0
      · exact h0
      · obtain ⟨_, h1, _⟩ := h.2 h0
        cases h1
    have : l = [] := List.eq_nil_of_length_eq_zero (by omega)
    subst this
    exact run_convert_bytes_nil w src e hs he n c dst hd
  · have hl : (loadCells ad n).run P w = .ok (l.map (Value.int .u8)).toArray w := by
      have := run_loadCells_list (P := P) w ad (l.map (Value.int .u8)) (fun j v hj => by
        have hj0 : 0 < n := by
          rcases Nat.eq_zero_or_pos n with h0 | h0
          · have : l = [] := List.eq_nil_of_length_eq_zero (by omega)
            subst this
            simp at hj
          · exact h0
        obtain ⟨ad', h1, _, h2⟩ := h.2 hj0
        injection h1 with h1
        subst h1
        exact h2 j v hj)
      simpa [hn] using this
    rw [run_convert_bytes_string w src dst e _ n c hs he hd, run_bytesToString w ad n c l hl, foldl_push_bytes]
    simp [strOfNums, ByteArray.empty, ByteArray.emptyWithCapacity]
    rfl


theorem blk_newA (w : World) (t : TypeId) (cs : Array Value) : Blk (w.alloc (.cells cs t)) w.heap.size t cs.toList := by
  unfold Blk
  rw [heap_alloc_new]
section
variable {P : Program} {ops : Array Oper} {rest : List Oper} {o : Oper} {a : Act} {Q : Exit → Act → World → Prop} {W : World} {c : Array Value}
theorem gate_load {t : TypeId} {p : Operand} (_ho : o.op = .load t p) (h : wpList P ops Q (o :: rest) a W) : wpList P ops Q (o :: rest) a W := h
theorem wpList_store_new (hgd : o.guard = none) (ty : TypeId) (x y : Operand) (ho : o.op = .store ty x y) (w : World) (hW : W = w.alloc (.cells c ty)) (c' : Array Value) (hx : a.eval x = .pointer (some ⟨w.heap.size, 0, none⟩)) (hy : a.eval y = .agg c')
    (hi : (P.info? ty).map (·.size) = some c'.size) (hs : c.size = c'.size) (h1 : c'.all (·.oneCell') = true)
    (h : wpList P ops Q rest (a.put o.dst undef) (w.alloc (.cells c' ty))) : wpList P ops Q (o :: rest) a W := by
  subst hW
  refine wpList_plain hgd fun _ hK => ?_
  unfold Oper.wp execOp
  simp only [ho, hx, hy, Instr.storeAt, Instr.sureAddr, Sem.run_bind, Sem.run_pure, Result.andThen_ok, run_storeVar_new w ty c c' hi hs h1]
  exact hK _ _ h
end
theorem size_set6 (W : World) (p : Nat) (a b c d e f : Value) : (set6 W p a b c d e f).heap.size = W.heap.size := by simp [set6]
/-- The bytes of a text, as numbers. -/
def nb (s : ByteArray) : List Int := s.data.toList.map fun b => (b.toNat : Int)
theorem nb_length (s : ByteArray) : (nb s).length = s.size := by rw [nb, List.length_map]; rfl
theorem nb_isB (s : ByteArray) : IsB (nb s) := by
  intro x hx
  simp only [nb, List.mem_map] at hx
  obtain ⟨b, _, rfl⟩ := hx
  have := b.toNat_lt
  omega
theorem str_nb (s : ByteArray) : strOfNums (nb s) = s := by
  unfold strOfNums nb
  rw [List.map_map]
  have : ((fun n : Int => UInt8.ofNat n.toNat) ∘ fun b : UInt8 => (b.toNat : Int)) = id := by
    funext b
    simp
  rw [this, List.map_id]

theorem bs_nb (s : ByteArray) : bs (nb s) = s.data.toList.map fun b => Value.int .u8 (b.toNat : Int) := by
  simp [bs, nb]

set_option maxHeartbeats 1000000 in
set_option maxRecDepth 100000 in
theorem uuid_calls (w : World) (s : ByteArray) (h : s.size = 16) :
    Calls Tryd.prog 39 #[.string s] w fun e w' => e = .returned (.agg (bs (nb s)).toArray) ∧ Below w.heap.size w w' := by
  obtain ⟨cs, hcs⟩ : ∃ cs, cs = (bs (nb s)).toArray := ⟨_, rfl⟩
  have hsz : cs.size = 16 := by rw [hcs]; simp [bs_length, nb_length, h]
  have hcp : ∀ ty, (Builtin.copy_ #[22, 9] ty #[.slice (some ⟨w.heap.size, 0, none⟩) 16 16, .string s]).run Tryd.prog (w.alloc (.cells #[.int .u8 0, .int .u8 0, .int .u8 0, .int .u8 0, .int .u8 0, .int .u8 0, .int .u8 0, .int .u8 0, .int .u8 0, .int .u8 0, .int .u8 0, .int .u8 0, .int .u8 0, .int .u8 0, .int .u8 0, .int .u8 0] 78)) = .ok (goInt s.size) (w.alloc (.cells cs 78)) := fun ty => by
    rw [Lib.run_copy_row_string (w.alloc (.cells #[.int .u8 0, .int .u8 0, .int .u8 0, .int .u8 0, .int .u8 0, .int .u8 0, .int .u8 0, .int .u8 0, .int .u8 0, .int .u8 0, .int .u8 0, .int .u8 0, .int .u8 0, .int .u8 0, .int .u8 0, .int .u8 0] 78)) 22 9 ty 5 w.heap.size 0 16 16 s #[.int .u8 0, .int .u8 0, .int .u8 0, .int .u8 0, .int .u8 0, .int .u8 0, .int .u8 0, .int .u8 0, .int .u8 0, .int .u8 0, .int .u8 0, .int .u8 0, .int .u8 0, .int .u8 0, .int .u8 0, .int .u8 0] 78 Tryd.underlying22 (by kernel_rfl) (heap_alloc_new w _) (by omega) (by simp; omega), World.setRow_alloc_new]
    congr 3
    rw [hcs, h]
    simp [bs_nb, Go.Lib.byteCells]
  have hi : (Tryd.prog.info? 78).map (·.size) = some cs.size := by rw [hsz]; kernel_rfl
  have h1 : cs.all (·.oneCell') = true := by rw [hcs]; exact all_oneCell_toArray (bs_one _)
  have H1 := Lib.hid h1
  clear h1
  have hd : ((s.size : Int) != 16) = false := by simp; omega
  have hd2 : decide (s.size = 16) = true := by simp; omega
  have HCS := Lib.hid hcs
  have HCS_toList : cs.toList = bs (nb s) := by rw [hcs]
  have HSZ := Lib.hid hsz
  have HI := Lib.hid hi
  have HH := Lib.hid h
  rw [← hcs]
  clear hcs hsz hi h
  go_enter Tryd.func39, Tryd.ntmps39
  go_wp2_with (first
    | ((with_reducible refine gate_load rfl ?_)
       go_must (refine wpList_load_row rfl 78 (.tmp 2) rfl w.heap.size rfl 78 cs (0, 0) _ (heap_alloc_new w _) Tryd.underlying78 rfl HI.out ?_))
    | ((with_reducible refine gate_store rfl ?_)
       go_must (refine wpList_store_new rfl 78 _ _ rfl w rfl cs rfl rfl HI.out rfl H1.out ?_)))
  refine bodyPost_ret (results_cell0 (cs := cs.toList) rfl _ rfl (blk_newA w 78 cs) Tryd.underlying78 rfl (by rw [Array.length_toList]; exact HI.out)) rfl ?_
  exact ⟨by simp, (Below.refl _ w).alloc (Nat.le_refl _) _⟩

set_option maxHeartbeats 1000000 in
set_option maxRecDepth 100000 in
theorem UMarshal_calls (w0 w : World) (B gb : Nat) (k l : List Int) (hk : k.length = 16) (hb : Bw w0 w B gb l) (hs : l.length ≤ 900000) :
    Calls Tryd.prog 40 #[.agg (bs k).toArray, .pointer (some ⟨gb, 0, none⟩)] w fun e w' => e = .returned .nilIface ∧ Bw w0 w' B gb (l ++ 152 :: k) := by
  have HB := Lib.hid hb
  have hgb := hb.lt
  obtain ⟨cs, hcs⟩ : ∃ cs, cs = (bs k).toArray := ⟨_, rfl⟩
  have hsz : cs.size = 16 := by rw [hcs]; simp [bs_length, hk]
  rw [← hcs]
  have HCS := Lib.hid hcs
  have HSZ := Lib.hid hsz
  have HK := Lib.hid hk
  clear hb hcs hsz hk
  go_enter Tryd.func40, Tryd.ntmps40
  go_wp2_with (first
    | (go_at_call 78
       go_must (
         (refine (AppendByte_calls w0 _ B gb 152 l (HB.out.alloc _) (by omega)).mono ?_)
         rintro e w1 ⟨rfl, hb1, hk1⟩
         have hblk := hk1 w.heap.size 78 cs.toList (blk_newA w 78 cs) (by decide) (by omega)
         have HB1 := Lib.hid hb1
         have HBLK := Lib.hid hblk
         have hz1 := hblk.lt
         clear hblk hb1 hk1))
    | (go_at_call 79
       go_must (
         (have hr : Reads w1 w1.heap.size 1 (some ⟨w.heap.size, 0, none⟩) k.length (bs k) := by
           have h2 := (HBLK.out.reads 0 16 (by rw [Array.length_toList, HSZ.out]; omega)).more (show w.heap.size + 1 ≤ w1.heap.size from hz1)
           rw [HK.out]
           rw [List.drop_zero, HCS.out, List.take_of_length_le (by rw [List.toList_toArray, bs_length, HK.out]; omega)] at h2
           exact h2)
         have hca := Append_calls w0 w1 B gb (some ⟨w.heap.size, 0, none⟩) 16 (l ++ [152]) k hr HB1.out (by rw [HK.out]; simp; omega)
         rw [HK.out] at hca
         refine hca.mono ?_
         rintro e w2 ⟨rfl, hb2, hk2⟩
         have HB2 := Lib.hid hb2
         clear hb2 hk2 hr hca)))
  go_ret
  exact ⟨rfl, by have := HB2.out; rwa [List.append_assoc] at this⟩

set_option maxHeartbeats 1000000 in
set_option maxRecDepth 100000 in
theorem implWriteUuid_calls (w : World) (s : ByteArray) (h : s.size = 16) :
    Calls Tryd.prog 13 #[.string s] w (Told w (152 :: nb s)) := by
  obtain ⟨w0, hw0⟩ : ∃ w0, w0 = ((w.alloc (.cells #[.slice none 0 0] 22)).alloc (.cells #[.bool false] 4)) := ⟨_, rfl⟩
  have hsz : w0.heap.size = w.heap.size + 1 + 1 := by rw [hw0]; simp
  have hbel0 : Below w.heap.size w w0 := by rw [hw0]; exact ((Below.refl _ w).alloc (Nat.le_refl _) _).alloc (by simp) _
  have HW0 := Lib.hid hw0
  have HSZ := Lib.hid hsz
  have HBEL0 := Lib.hid hbel0
  have hbn := bw_new w0
  rw [hw0] at hbn
  rw [← hw0, hsz] at hbn
  have HBN := Lib.hid hbn
  obtain ⟨L, hL⟩ : ∃ L, L = 152 :: nb s := ⟨_, rfl⟩
  have hLl : L.length = 17 := by rw [hL]; simp [nb_length, h]
  rw [← hL]
  have HL := Lib.hid hL
  have HLL := Lib.hid hLl
  have HH := Lib.hid h
  clear hw0 hsz hbel0 hbn hL hLl h
  go_enter_defers Tryd.func13, Tryd.ntmps13
  go_wp2_with (first
    | (go_at_call 39
       go_must (
         (refine (uuid_calls _ s HH.out).mono ?_)
         rintro e w2 ⟨rfl, hb2⟩
         rw [← HW0.out] at hb2
         have HB2 := Lib.hid (HBN.out.more hb2)
         clear hb2))
    | (go_at_call 40
       go_must (
         (refine (UMarshal_calls w0 w2 (w.heap.size + 1 + 1) (w.heap.size + 1 + 1) (nb s) [] (by rw [nb_length, HH.out]) HB2.out (by simp)).mono ?_)
         rintro e w3 ⟨rfl, hb3⟩
         rw [List.nil_append, ← HL.out] at hb3
         have HB3 := Lib.hid hb3
         clear hb3))
    | (go_at_call 42
       go_must (
         (refine (Bytes_all w0 w3 _ _ L HB3.out (by rw [HLL.out]; omega)).mono ?_)
         rintro e w4 ⟨⟨g4, c4, rfl, hr4⟩, n4, rfl⟩
         have HR4 := Lib.hid hr4
         clear hr4))
    | (go_at_call 41
       go_must (
         (have hc := copied_calls (w3.drewN n4) (some ⟨g4, 0, none⟩) c4 (bs L) (by rw [bs_length]; exact HR4.out) (bs_one _) (by rw [bs_length, HLL.out]; omega))
         rw [bs_length] at hc
         refine hc.mono ?_
         rintro e w5 ⟨g5, cs5, rfl, hb5, hcs5, hcm5, ht5, hB5, hbel5⟩
         rw [bs_length] at hcs5 ht5
         rw [bs_length]
         have hbel6 := HB3.out.below.trans ((below_drewN (Below.refl _ w3) n4).trans hbel5 |>.mono (Nat.le_of_lt HB3.out.lt))
         have hbel7 := hbel6
         rw [HW0.out] at hbel7
         obtain ⟨k0, k1⟩ := two_cells (W := w) hbel7
         have r0 := k0.cell 0
         have r1 := k1.cell 0
         have f0 := k0.frozen 0
         have f1 := k1.frozen 0
         have z0 := k0.lt
         have z1 := k1.lt
         have hg5 : w.heap.size + 1 + 1 < g5 := Nat.lt_of_lt_of_le HB3.out.lt hB5
         have K0 := Lib.hid k0
         have K1 := Lib.hid k1
         have H5 := Lib.hid hb5
         have HT5 := Lib.hid ht5
         have HC5 := Lib.hid hcs5
         have HBEL6 := Lib.hid hbel6
         clear k0 k1 hb5 ht5 hbel5 hbel6 hbel7 hc hB5 hcs5)))
  refine leaves_cons (f := 38) (args := #[.pointer (some ⟨w.heap.size, 0, none⟩), .pointer (some ⟨w.heap.size + 1, 0, none⟩)]) (by simp) (by simp [go_sem]) ?_
  refine (noData_idle _ _ _).mono ?_
  rintro e u' w'' ⟨rfl, rfl, rfl⟩
  have s0 : ((w5.setCell ⟨w.heap.size, 0, none⟩ (.slice (some ⟨g5, 0, none⟩) L.length cs5.length)).setCell ⟨w.heap.size + 1, 0, none⟩ (.bool true)).cell? ⟨w.heap.size, 0, none⟩ = some (.slice (some ⟨g5, 0, none⟩) L.length cs5.length) := ((K0.out.set_ 0 _).far (p := ⟨w.heap.size + 1, 0, none⟩) (by simp) _).cell 0
  have s1 : ((w5.setCell ⟨w.heap.size, 0, none⟩ (.slice (some ⟨g5, 0, none⟩) L.length cs5.length)).setCell ⟨w.heap.size + 1, 0, none⟩ (.bool true)).cell? ⟨w.heap.size + 1, 0, none⟩ = some (.bool true) := ((K1.out.far (p := ⟨w.heap.size, 0, none⟩) (by simp) _).set_ 0 _).cell 0
  refine ⟨_, by simp [results, Tryd.results13, go_sem, s0, s1], g5, cs5, rfl, (H5.out.far (by simp; omega) _).far (by simp; omega) _, HC5.out, hcm5, HT5.out, by omega, ?_⟩
  exact ((HBEL0.out.trans (HBEL6.out.mono (by omega))).setCell (by simp) _).setCell (by simp) _

set_option maxHeartbeats 4000000 in
set_option maxRecDepth 100000 in
theorem take_16 (w : World) (B c : Nat) (A : Option Addr) (lv : Int) (r : List Int) (h : Reads w B 1 A r.length (bs r)) (hB : B ≤ w.heap.size) (hc : r.length ≤ c) (hm : c ≤ maxLen) (hr : r.length = 16) :
    Calls Tryd.prog 81 #[.agg #[.slice none 0 0, .int .i64 152], .slice A r.length c, .int .i64 lv] w (Tk w B (vl 17 0 (strOfNums r)) []) := by
  rw [hr] at h hc ⊢
  have hm' : c ≤ 9223372036854775807 := by unfold maxLen at hm; omega
  have H := Lib.hid h
  have hc16 : (16 : Int) ≤ (c : Int) := by omega
  obtain ⟨ad, rfl, hadB, _⟩ := h.byte (l := r) (k := 0) (by omega)
  obtain ⟨S, hS⟩ : ∃ S, S = strOfNums r := ⟨_, rfl⟩
  rw [← hS]
  have HS := Lib.hid hS
  clear h hr hS
  by_cases hc1 : c = 16
  all_goals
    go_enter Tryd.func81, Tryd.ntmps81
    go_wp2_with (
      (go_at_call 105)
      go_must (
        (refine (kindOf_yes _ 152 17 16 (by omega) (by omega) (by rfl)).mono ?_)
        rintro e w1 ⟨rfl, hb1'⟩
        obtain ⟨p0, p1, p2, hbel⟩ := take_blks (w := w) (o := [.slice none 0 0, .int .i64 152]) (hb1'.mono (by simp))
        have q0 := p0.cell 0
        have q1 := p0.cell 1
        have z0 := p0.lt
        obtain ⟨s0, s1, s2, s3, s4, s5⟩ := blk_cells6 p1
        obtain ⟨f0, f1, f2, f3, f4, f5⟩ := blk_froz6 p1
        have z1 := p1.lt
        have P1 := Lib.hid p1
        have HBEL := Lib.hid hbel
        have hww1 : w.heap.size ≤ w1.heap.size := by omega
        have hcv : ∀ o n, (convert 22 9 (.slice (some ad) 16 n)).run Tryd.prog (w1.alloc o) = .ok (.string S) (w1.alloc o) := fun o n => by
          rw [HS.out]
          exact conv_reads ((H.out.below (HBEL.out.mono hB)).alloc (by omega) o) _ _ _ Tryd.underlying22 Tryd.underlying5 Tryd.underlying9
        clear hb1' p0 p1 p2 hbel))
    have hww1 : w.heap.size ≤ w1.heap.size := by omega
    go_region
    go_wp2
    refine bodyPost_ret (results_cell2 rfl _ rfl (((blk_set6 P1.out _ _ _ _ _ _).alloc _).drewN 1) Tryd.underlying29 rfl (by kernel_rfl)) rfl ?_
    exact ⟨_, _, rfl, by simp, by omega, ⟨by simp [bs], fun h => absurd h (by simp)⟩, ((bel_set6 HBEL.out (Nat.le_add_right _ 1) _ _ _ _ _ _).alloc (by rw [size_set6]; exact hww1) _).drew⟩

theorem wrote_uuid (w : World) (B c : Nat) (A : Option Addr) (s : ByteArray) (hs : s.size = 16) (h : Reads w B 1 A 17 (bs (152 :: nb s))) (hB : B ≤ w.heap.size) (hc : 17 ≤ c) (hm : c ≤ maxLen) :
    Calls Tryd.prog 14 #[.slice A 17 c, .bool true, vl 17 0 s] w fun e w' => e = .returned (.bool true) ∧ Below w.heap.size w w' := by
  have hl : (nb s).length = 16 := by rw [nb_length, hs]
  have hw := wrote_of w B c A 152 17 0 s (nb s) (by rw [hl]; exact h) hB (by omega) (by omega) (by rw [hl]; omega) hm (fun W A c h2 hB2 hc2 hm2 => by
    have ht := take_16 W B c A 8 (nb s) h2 hB2 hc2 hm2 hl
    rw [str_nb] at ht
    exact ht)
  rw [hl] at hw
  exact hw

set_option maxHeartbeats 2000000 in
set_option maxRecDepth 100000 in
theorem FnWriteUuid_walk (w : World) (s : ByteArray) :
    Calls Tryd.prog 3 #[.string s] w fun e w' => e = .returned (.bool true) ∧ Below w.heap.size w w' := by
  by_cases hz : 2147483647 < s.size
  · have hd : decide ((2147483647 : Int) < (s.size : Int)) = true := by simp; omega
    go_enter Tryd.func3, Tryd.ntmps3
    go_wp2
    go_ret
    exact ⟨rfl, Below.refl _ _⟩
  have hd : decide ((2147483647 : Int) < (s.size : Int)) = false := by simp; omega
  obtain ⟨sm, hsm⟩ : ∃ sm : ByteArray, sm = ⟨#[97, 98, 99, 100, 101, 102, 103, 104, 105, 106, 107, 108, 109, 110, 111, 112]⟩ := ⟨_, rfl⟩
  have hsz : sm.size = 16 := by rw [hsm]; rfl
  have HSM := Lib.hid hsm
  have HSZ := Lib.hid hsz
  clear hsm hsz
  by_cases h16 : s.size = 16
  · have hd2 : ((s.size : Int) != 16) = false := by simp; omega
    have H16 := Lib.hid h16
    clear h16
    go_enter Tryd.func3, Tryd.ntmps3
    go_wp2_with (first
      | (go_at_call 13
         go_must (first
          | ((refine ((implWriteUuid_calls w2 s H16.out).mono fun e w' h => told_n h (n := 17) (by simp [nb_length, H16.out])).mono ?_)
             rintro e w3 ⟨g3, cs3, rfl, hc3, hm3, hr3, hb3⟩
             have HR3 := Lib.hid hr3
             have HB3 := Lib.hid hb3
             clear hr3 hb3)
          | ((rw [← HSM.out])
             refine ((implWriteUuid_calls w sm HSZ.out).mono fun e w' h => told_n h (n := 17) (by simp [nb_length, HSZ.out])).mono ?_
             rintro e w1 ⟨g1, cs1, rfl, hc1, hm1, hr1', hb1⟩
             have HR1 := Lib.hid hr1'
             have HB1 := Lib.hid hb1
             clear hr1' hb1)))
      | (go_at_call 14
         go_must (first
          | ((refine (wrote_uuid w3 w3.heap.size _ _ s H16.out HR3.out (Nat.le_refl _) hc3 hm3).mono ?_)
             rintro e w4 ⟨rfl, hb4⟩
             have HB4 := Lib.hid hb4
             clear hb4)
          | ((rw [← HSM.out])
             refine (wrote_uuid w1 w1.heap.size _ _ sm HSZ.out HR1.out (Nat.le_refl _) hc1 hm1).mono ?_
             rintro e w2 ⟨rfl, hb2⟩
             have HB2 := Lib.hid hb2
             clear hb2))))
    go_ret
    have s1 := HB1.out.size
    have s2 := HB2.out.size
    have s3 := HB3.out.size
    exact ⟨rfl, ((HB1.out.trans (HB2.out.mono s1)).trans (HB3.out.mono (by omega))).trans (HB4.out.mono (by omega))⟩
  · have hd2 : ((s.size : Int) != 16) = true := by simp; omega
    go_enter Tryd.func3, Tryd.ntmps3
    go_wp2_with (first
      | (go_at_call 13
         go_must (
           (rw [← HSM.out])
           refine ((implWriteUuid_calls w sm HSZ.out).mono fun e w' h => told_n h (n := 17) (by simp [nb_length, HSZ.out])).mono ?_
           rintro e w1 ⟨g1, cs1, rfl, hc1, hm1, hr1', hb1⟩
           have HR1 := Lib.hid hr1'
           have HB1 := Lib.hid hb1
           clear hr1' hb1))
      | (go_at_call 14
         go_must (
           (rw [← HSM.out])
           refine (wrote_uuid w1 w1.heap.size _ _ sm HSZ.out HR1.out (Nat.le_refl _) hc1 hm1).mono ?_
           rintro e w2 ⟨rfl, hb2⟩
           have HB2 := Lib.hid hb2
           clear hb2)))
    go_ret
    have s1 := HB1.out.size
    exact ⟨rfl, HB1.out.trans (HB2.out.mono s1)⟩
end Go.Proofs.YtpkfmcnbodnpeaaDoor
