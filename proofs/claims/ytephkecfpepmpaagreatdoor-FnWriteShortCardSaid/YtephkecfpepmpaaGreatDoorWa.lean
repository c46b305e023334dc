/- AMQP: a ubyte and a short are written by Marshal. PRINTED by wip/genwa.py. -/
import Derived.Test.YtephkecfpepmpaaGreatDoorVb
namespace Go.Proofs.YtephkecfpepmpaaGreatDoor
open Go.RowKit
set_option linter.unusedVariables false

set_option maxHeartbeats 1000000 in
set_option maxRecDepth 100000 in
theorem AppendUint16_calls (w0 w : World) (B gb : Nat) (x : Int) (l : List Int) (h0 : 0 ≤ x) (h1 : x ≤ 65535) (hb : Bw w0 w B gb l) (hs : l.length + 2 ≤ 1000000) :
    Calls Tryz.prog 38 #[.pointer (some ⟨gb, 0, none⟩), .int .u16 x] w fun e w' => e = .returned (.tuple #[]) ∧ Bw w0 w' B gb (l ++ be x 2) ∧ KeepsB w w' gb := by
  obtain ⟨i0, hi0, hz0, hz1, hz2⟩ := info_parts infoU8
  obtain ⟨v, hblk, hown, hbel, hB, hne⟩ := hb
  have q0 : w.cell? ⟨gb, 0, none⟩ = some v := hblk.cell 0
  have hgb := hblk.lt
  have HBLK := Lib.hid hblk
  have HOWN := Lib.hid hown
  have HBEL := Lib.hid hbel
  have HNE := Lib.hid hne
  clear hblk hown hbel hne
  go_enter Tryz.func38, Tryz.ntmps38
  go_wp2_with (
    (at_builtin)
    go_must (
      (refine wpList_append_any _ rfl (.tmp 8) (.tmp 14) 23 rfl B 5 i0 _ 1 1 Tryz.underlying23 hi0 hz0 hz1 hz2 rfl (by omega) v l.length (bs l) rfl (HOWN.out.alloc _) (w.heap.size + 1) (some ⟨w.heap.size, 0, none⟩) 2 2 (bs [x / 256, x % 256]) rfl (reads_list w 5 [x / 256, x % 256]) (bs_one _) (by simp only [maxLen]; omega) (by omega) (by simp; omega) ?_)
      intro v2 w2 hown2 hg2 hat2
      obtain ⟨A2, c2, rfl⟩ := own_form hown2
      obtain ⟨hb2, hbw2, hkp2⟩ := bw_next (HOWN.out.alloc _) (HBLK.out.alloc _) (HBEL.out.alloc (by omega) _) hB HNE.out (fun k hk => (HOWN.out.lt k hk).1) (own_b hown2 (by simp)) hg2 (by simpa using hat2)
      have n0 : w2.cell? ⟨gb, 0, none⟩ = some v := hb2.cell 0
      have f0 := hb2.frozen 0
      have hz : gb < w2.heap.size := hb2.lt
      have HBW := Lib.hid hbw2
      have HKP := Lib.hid hkp2
      clear hown2 hg2 hat2 hb2 hbw2 hkp2))
  go_end0
  exact ⟨rfl, by rw [← be2 x h0 h1]; exact HBW.out, (KeepsB.of_below ((Below.refl _ w).alloc (Nat.le_refl _) _)).trans HKP.out⟩

def isIfc : TypeDesc → Bool
  | .interface _ => true
  | _ => false
theorem assert_yes {P : Program} {t xT : TypeId} {d : TypeDesc} (hu : P.underlying t = some d) (hni : isIfc d = false) (v : Value) (w : World) : (Instr.typeAssert (.iface t v) xT t true).run P w = .ok (.tuple #[v, .bool true]) w := by
  cases d <;> simp_all [isIfc, Instr.typeAssert, run_underlying hu, go_sem, Result.andThen]
theorem assert_no {P : Program} {t a xT : TypeId} {d : TypeDesc} {z : Value} {i : TypeInfo} (hu : P.underlying a = some d) (hni : isIfc d = false) (hne : t ≠ a) (hi : P.info? a = some i) (hz : i.zero = some z) (v : Value) (w : World) : (Instr.typeAssert (.iface t v) xT a true).run P w = .ok (.tuple #[z, .bool false]) w := by
  cases d <;> simp_all [isIfc, Instr.typeAssert, run_underlying hu, go_sem, Result.andThen, zeroValue, typeInfo]
theorem assert_noB {P : Program} {t a xT : TypeId} {z : Value} (hu : (P.underlying a).map isIfc = some false) (hne : t ≠ a) (hz : (P.info? a).map (·.zero) = some (some z)) (v : Value) (w : World) : (Instr.typeAssert (.iface t v) xT a true).run P w = .ok (.tuple #[z, .bool false]) w := by
  obtain ⟨d, hd, h1⟩ := Option.map_eq_some_iff.1 hu
  obtain ⟨i, hi, h2⟩ := Option.map_eq_some_iff.1 hz
  exact assert_no hd h1 hne hi h2 v w
theorem assert_yesB {P : Program} {t xT : TypeId} (hu : (P.underlying t).map isIfc = some false) (v : Value) (w : World) : (Instr.typeAssert (.iface t v) xT t true).run P w = .ok (.tuple #[v, .bool true]) w := by
  obtain ⟨d, hd, h1⟩ := Option.map_eq_some_iff.1 hu
  exact assert_yes hd h1 v w
theorem as_uint8_bool (v : Value) (w : World) : (Instr.typeAssert (.iface 5 v) 20 4 true).run Tryz.prog w = .ok (.tuple #[.bool false, .bool false]) w := assert_noB (by kernel_rfl) (by decide) (by kernel_rfl) v w
theorem as_uint8_pbool (v : Value) (w : World) : (Instr.typeAssert (.iface 5 v) 20 46 true).run Tryz.prog w = .ok (.tuple #[.pointer none, .bool false]) w := assert_noB (by kernel_rfl) (by decide) (by kernel_rfl) v w
theorem as_uint8_uint (v : Value) (w : World) : (Instr.typeAssert (.iface 5 v) 20 86 true).run Tryz.prog w = .ok (.tuple #[.int .u64 0, .bool false]) w := assert_noB (by kernel_rfl) (by decide) (by kernel_rfl) v w
theorem as_uint8_puint (v : Value) (w : World) : (Instr.typeAssert (.iface 5 v) 20 88 true).run Tryz.prog w = .ok (.tuple #[.pointer none, .bool false]) w := assert_noB (by kernel_rfl) (by decide) (by kernel_rfl) v w
theorem as_uint8_uint64 (v : Value) (w : World) : (Instr.typeAssert (.iface 5 v) 20 27 true).run Tryz.prog w = .ok (.tuple #[.int .u64 0, .bool false]) w := assert_noB (by kernel_rfl) (by decide) (by kernel_rfl) v w
theorem as_uint8_puint64 (v : Value) (w : World) : (Instr.typeAssert (.iface 5 v) 20 89 true).run Tryz.prog w = .ok (.tuple #[.pointer none, .bool false]) w := assert_noB (by kernel_rfl) (by decide) (by kernel_rfl) v w
theorem as_uint8_uint32 (v : Value) (w : World) : (Instr.typeAssert (.iface 5 v) 20 90 true).run Tryz.prog w = .ok (.tuple #[.int .u32 0, .bool false]) w := assert_noB (by kernel_rfl) (by decide) (by kernel_rfl) v w
theorem as_uint8_puint32 (v : Value) (w : World) : (Instr.typeAssert (.iface 5 v) 20 92 true).run Tryz.prog w = .ok (.tuple #[.pointer none, .bool false]) w := assert_noB (by kernel_rfl) (by decide) (by kernel_rfl) v w
theorem as_uint8_uint16 (v : Value) (w : World) : (Instr.typeAssert (.iface 5 v) 20 93 true).run Tryz.prog w = .ok (.tuple #[.int .u16 0, .bool false]) w := assert_noB (by kernel_rfl) (by decide) (by kernel_rfl) v w
theorem as_uint8_puint16 (v : Value) (w : World) : (Instr.typeAssert (.iface 5 v) 20 95 true).run Tryz.prog w = .ok (.tuple #[.pointer none, .bool false]) w := assert_noB (by kernel_rfl) (by decide) (by kernel_rfl) v w
theorem as_uint8_uint8 (v : Value) (w : World) : (Instr.typeAssert (.iface 5 v) 20 5 true).run Tryz.prog w = .ok (.tuple #[v, .bool true]) w := assert_yesB (by kernel_rfl) v w
theorem as_int16_bool (v : Value) (w : World) : (Instr.typeAssert (.iface 22 v) 20 4 true).run Tryz.prog w = .ok (.tuple #[.bool false, .bool false]) w := assert_noB (by kernel_rfl) (by decide) (by kernel_rfl) v w
theorem as_int16_pbool (v : Value) (w : World) : (Instr.typeAssert (.iface 22 v) 20 46 true).run Tryz.prog w = .ok (.tuple #[.pointer none, .bool false]) w := assert_noB (by kernel_rfl) (by decide) (by kernel_rfl) v w
theorem as_int16_uint (v : Value) (w : World) : (Instr.typeAssert (.iface 22 v) 20 86 true).run Tryz.prog w = .ok (.tuple #[.int .u64 0, .bool false]) w := assert_noB (by kernel_rfl) (by decide) (by kernel_rfl) v w
theorem as_int16_puint (v : Value) (w : World) : (Instr.typeAssert (.iface 22 v) 20 88 true).run Tryz.prog w = .ok (.tuple #[.pointer none, .bool false]) w := assert_noB (by kernel_rfl) (by decide) (by kernel_rfl) v w
theorem as_int16_uint64 (v : Value) (w : World) : (Instr.typeAssert (.iface 22 v) 20 27 true).run Tryz.prog w = .ok (.tuple #[.int .u64 0, .bool false]) w := assert_noB (by kernel_rfl) (by decide) (by kernel_rfl) v w
theorem as_int16_puint64 (v : Value) (w : World) : (Instr.typeAssert (.iface 22 v) 20 89 true).run Tryz.prog w = .ok (.tuple #[.pointer none, .bool false]) w := assert_noB (by kernel_rfl) (by decide) (by kernel_rfl) v w
theorem as_int16_uint32 (v : Value) (w : World) : (Instr.typeAssert (.iface 22 v) 20 90 true).run Tryz.prog w = .ok (.tuple #[.int .u32 0, .bool false]) w := assert_noB (by kernel_rfl) (by decide) (by kernel_rfl) v w
theorem as_int16_puint32 (v : Value) (w : World) : (Instr.typeAssert (.iface 22 v) 20 92 true).run Tryz.prog w = .ok (.tuple #[.pointer none, .bool false]) w := assert_noB (by kernel_rfl) (by decide) (by kernel_rfl) v w
theorem as_int16_uint16 (v : Value) (w : World) : (Instr.typeAssert (.iface 22 v) 20 93 true).run Tryz.prog w = .ok (.tuple #[.int .u16 0, .bool false]) w := assert_noB (by kernel_rfl) (by decide) (by kernel_rfl) v w
theorem as_int16_puint16 (v : Value) (w : World) : (Instr.typeAssert (.iface 22 v) 20 95 true).run Tryz.prog w = .ok (.tuple #[.pointer none, .bool false]) w := assert_noB (by kernel_rfl) (by decide) (by kernel_rfl) v w
theorem as_int16_uint8 (v : Value) (w : World) : (Instr.typeAssert (.iface 22 v) 20 5 true).run Tryz.prog w = .ok (.tuple #[.int .u8 0, .bool false]) w := assert_noB (by kernel_rfl) (by decide) (by kernel_rfl) v w
theorem as_int16_puint8 (v : Value) (w : World) : (Instr.typeAssert (.iface 22 v) 20 97 true).run Tryz.prog w = .ok (.tuple #[.pointer none, .bool false]) w := assert_noB (by kernel_rfl) (by decide) (by kernel_rfl) v w
theorem as_int16_int (v : Value) (w : World) : (Instr.typeAssert (.iface 22 v) 20 3 true).run Tryz.prog w = .ok (.tuple #[.int .i64 0, .bool false]) w := assert_noB (by kernel_rfl) (by decide) (by kernel_rfl) v w
theorem as_int16_pint (v : Value) (w : World) : (Instr.typeAssert (.iface 22 v) 20 84 true).run Tryz.prog w = .ok (.tuple #[.pointer none, .bool false]) w := assert_noB (by kernel_rfl) (by decide) (by kernel_rfl) v w
theorem as_int16_int8 (v : Value) (w : World) : (Instr.typeAssert (.iface 22 v) 20 99 true).run Tryz.prog w = .ok (.tuple #[.int .i8 0, .bool false]) w := assert_noB (by kernel_rfl) (by decide) (by kernel_rfl) v w
theorem as_int16_pint8 (v : Value) (w : World) : (Instr.typeAssert (.iface 22 v) 20 100 true).run Tryz.prog w = .ok (.tuple #[.pointer none, .bool false]) w := assert_noB (by kernel_rfl) (by decide) (by kernel_rfl) v w
theorem as_int16_int16 (v : Value) (w : World) : (Instr.typeAssert (.iface 22 v) 20 22 true).run Tryz.prog w = .ok (.tuple #[v, .bool true]) w := assert_yesB (by kernel_rfl) v w
set_option maxHeartbeats 4000000 in
set_option maxRecDepth 1000000 in
theorem Marshal_u8 (w0 w : World) (B gb : Nat) (x : Int) (l : List Int) (h0 : 0 ≤ x) (h1 : x ≤ 255) (hb : Bw w0 w B gb l) (hs : l.length + 2 ≤ 1000000) :
    Calls Tryz.prog 26 #[.pointer (some ⟨gb, 0, none⟩), .iface 5 (.int .u8 x)] w fun e w' => e = .returned .nilIface ∧ Bw w0 w' B gb (l ++ [80, x]) := by
  have HB := Lib.hid hb
  clear hb
  have h_as_uint8_bool := as_uint8_bool
  have h_as_uint8_pbool := as_uint8_pbool
  have h_as_uint8_uint := as_uint8_uint
  have h_as_uint8_puint := as_uint8_puint
  have h_as_uint8_uint64 := as_uint8_uint64
  have h_as_uint8_puint64 := as_uint8_puint64
  have h_as_uint8_uint32 := as_uint8_uint32
  have h_as_uint8_puint32 := as_uint8_puint32
  have h_as_uint8_uint16 := as_uint8_uint16
  have h_as_uint8_puint16 := as_uint8_puint16
  have h_as_uint8_uint8 := as_uint8_uint8
  go_enter Tryz.func26, Tryz.ntmps26
  go_wp2_with (
    (go_at_call 39)
    go_must (
      (refine (Append_calls w0 _ B gb (some ⟨w.heap.size, 0, none⟩) 2 l [80, x] (by simpa [bs] using reads_list w 5 [80, x]) (HB.out.alloc _) (by simp; omega)).mono ?_)
      rintro e w1 ⟨rfl, hb1, _⟩
      have HB1 := Lib.hid hb1
      clear hb1))
  go_ret
  exact ⟨rfl, HB1.out⟩

set_option maxHeartbeats 4000000 in
set_option maxRecDepth 1000000 in
theorem Marshal_i16 (w0 w : World) (B gb : Nat) (x : Int) (l : List Int) (h0 : -32768 ≤ x) (h1 : x ≤ 32767) (hb : Bw w0 w B gb l) (hs : l.length + 3 ≤ 1000000) :
    Calls Tryz.prog 26 #[.pointer (some ⟨gb, 0, none⟩), .iface 22 (.int .i16 x)] w fun e w' => e = .returned .nilIface ∧ Bw w0 w' B gb (l ++ 97 :: be (IntKind.u16.wrap x) 2) := by
  have HB := Lib.hid hb
  clear hb
  have hw0 : 0 ≤ IntKind.u16.wrap x ∧ IntKind.u16.wrap x ≤ 65535 := by rw [IntKind.wrap_u16]; omega
  obtain ⟨hw0, hw1⟩ := hw0
  have h_as_int16_bool := as_int16_bool
  have h_as_int16_pbool := as_int16_pbool
  have h_as_int16_uint := as_int16_uint
  have h_as_int16_puint := as_int16_puint
  have h_as_int16_uint64 := as_int16_uint64
  have h_as_int16_puint64 := as_int16_puint64
  have h_as_int16_uint32 := as_int16_uint32
  have h_as_int16_puint32 := as_int16_puint32
  have h_as_int16_uint16 := as_int16_uint16
  have h_as_int16_puint16 := as_int16_puint16
  have h_as_int16_uint8 := as_int16_uint8
  have h_as_int16_puint8 := as_int16_puint8
  have h_as_int16_int := as_int16_int
  have h_as_int16_pint := as_int16_pint
  have h_as_int16_int8 := as_int16_int8
  have h_as_int16_pint8 := as_int16_pint8
  have h_as_int16_int16 := as_int16_int16
  go_enter Tryz.func26, Tryz.ntmps26
  go_wp2_with (first
    | (go_at_call 35
       go_must (
         (refine (AppendByte_calls w0 _ B gb 97 l HB.out (by omega)).mono ?_)
         rintro e w1 ⟨rfl, hb1, _⟩
         have HB1 := Lib.hid hb1
         clear hb1))
    | (go_at_call 38
       go_must (
         (refine (AppendUint16_calls w0 _ B gb (IntKind.u16.wrap x) (l ++ [97]) hw0 hw1 HB1.out (by simp; omega)).mono ?_)
         rintro e w2 ⟨rfl, hb2, _⟩
         have HB2 := Lib.hid hb2
         clear hb2)))
  go_ret
  refine ⟨rfl, ?_⟩
  have := HB2.out
  simpa using this

set_option maxHeartbeats 2000000 in
set_option maxRecDepth 100000 in
theorem marshaled_of (w : World) (v : Value) (t : TypeId) (L : List Int) (h0 : 0 < L.length) (h1 : L.length ≤ 1000000)
    (HM : ∀ W gb, Bw w W w.heap.size gb [] → Calls Tryz.prog 26 #[.pointer (some ⟨gb, 0, none⟩), .iface t v] W fun e w' => e = .returned .nilIface ∧ Bw w w' w.heap.size gb L) :
    Calls Tryz.prog 16 #[.iface t v] w (Told w L) := by
  have H := Lib.hid HM
  clear HM
  go_enter Tryz.func16, Tryz.ntmps16
  go_wp2_with (first
    | (go_at_call 26
       go_must (
         (refine (H.out _ _ (bw_new w)).mono ?_)
         rintro e w3 ⟨rfl, hb3⟩
         have HB3 := Lib.hid hb3
         clear hb3))
    | (go_at_call 28
       go_must (
         (refine (Bytes_all w w3 _ _ L HB3.out h0).mono ?_)
         rintro e w4 ⟨⟨g4, c4, rfl, hr4⟩, n4, rfl⟩
         have HR4 := Lib.hid hr4
         clear hr4))
    | (go_at_call 27
       go_must (
         (have hc := copied_calls (w3.drewN n4) (some ⟨g4, 0, none⟩) c4 (bs L) (by rw [bs_length]; exact HR4.out) (bs_one _) (by rw [bs_length]; omega))
         rw [bs_length] at hc
         refine hc.mono ?_
         rintro e w5 ⟨g5, cs5, rfl, hb5, hcs5, hcm5, ht5, hB5, hbel5⟩
         rw [bs_length] at hcs5 ht5
         rw [bs_length]
         have hbel6 := HB3.out.below.trans ((below_drewN (Below.refl _ w3) n4).trans hbel5 |>.mono HB3.out.below.size)
         have H5 := Lib.hid hb5
         have HT5 := Lib.hid ht5
         have HC5 := Lib.hid hcs5
         have HBEL6 := Lib.hid hbel6
         have HB5 : Hid (w.heap.size ≤ g5) := Nat.le_trans HB3.out.below.size hB5
         clear hb5 ht5 hbel5 hbel6 hc hB5 hcs5)))
  go_ret2
  exact ⟨g5, cs5, rfl, H5.out, HC5.out, hcm5, HT5.out, HB5.out, HBEL6.out⟩

set_option maxHeartbeats 2000000 in
set_option maxRecDepth 100000 in
theorem implWriteUbyte_calls (w : World) (x : Int) (h0 : 0 ≤ x) (h1 : x ≤ 255) :
    Calls Tryz.prog 8 #[.int .u8 x] w (Told w ([80, x])) := by
  obtain ⟨w0, hw0⟩ : ∃ w0, w0 = ((w.alloc (.cells #[.slice none 0 0] 23)).alloc (.cells #[.bool false] 4)) := ⟨_, rfl⟩
  have hsz : w0.heap.size = w.heap.size + 1 + 1 := by rw [hw0]; simp
  have hbel0 : Below w.heap.size w w0 := by rw [hw0]; exact ((Below.refl _ w).alloc (Nat.le_refl _) _).alloc (by simp) _
  obtain ⟨L, hL⟩ : ∃ L, L = [80, x] := ⟨_, rfl⟩
  have hLl : L.length = 2 := by rw [hL]; simp [be_length]
  have hm := marshaled_of w0 (.int .u8 x) 5 L (by omega) (by omega) (fun W gb hb => by
    have := Marshal_u8 w0 W w0.heap.size gb x [] h0 h1 hb (by simp)
    rw [List.nil_append, ← hL] at this
    exact this)
  rw [← hL]
  rw [hw0] at hm
  have HW0 := Lib.hid hw0
  have HSZ := Lib.hid hsz
  have HBEL0 := Lib.hid hbel0
  have HM := Lib.hid hm
  clear hw0 hsz hbel0 hL hLl hm
  go_enter_defers Tryz.func8, Tryz.ntmps8
  go_wp2_with (
    (go_at_call 16)
    go_must (
      (refine HM.out.mono ?_)
      rintro e w5 ⟨g5, cs5, rfl, hb5, hcs5, hcm5, ht5, hB5, hbel5⟩
      rw [← HW0.out] at hbel5 hB5
      have hbel7 := hbel5
      rw [HSZ.out, HW0.out] at hbel7
      obtain ⟨k0, k1⟩ := two_cells (W := w) hbel7
      have r0 := k0.cell 0
      have r1 := k1.cell 0
      have f0 := k0.frozen 0
      have f1 := k1.frozen 0
      have z0 := k0.lt
      have z1 := k1.lt
      have hg5 : w.heap.size + 1 + 1 ≤ g5 := by rw [← HSZ.out]; exact hB5
      have K0 := Lib.hid k0
      have K1 := Lib.hid k1
      have H5 := Lib.hid hb5
      have HT5 := Lib.hid ht5
      have HC5 := Lib.hid hcs5
      have HBEL6 : Hid (Below (w.heap.size + 1 + 1) w0 w5) := by rw [HSZ.out] at hbel5; exact hbel5
      clear k0 k1 hb5 ht5 hbel5 hbel7 hB5 hcs5))
  refine leaves_cons (f := 15) (args := #[.pointer (some ⟨w.heap.size, 0, none⟩), .pointer (some ⟨w.heap.size + 1, 0, none⟩)]) (by simp) (by simp [go_sem]) ?_
  refine (noData_idle _ _ _).mono ?_
  rintro e u' w'' ⟨rfl, rfl, rfl⟩
  have s0 : ((w5.setCell ⟨w.heap.size, 0, none⟩ (.slice (some ⟨g5, 0, none⟩) L.length cs5.length)).setCell ⟨w.heap.size + 1, 0, none⟩ (.bool true)).cell? ⟨w.heap.size, 0, none⟩ = some (.slice (some ⟨g5, 0, none⟩) L.length cs5.length) := ((K0.out.set_ 0 _).far (p := ⟨w.heap.size + 1, 0, none⟩) (by simp) _).cell 0
  have s1 : ((w5.setCell ⟨w.heap.size, 0, none⟩ (.slice (some ⟨g5, 0, none⟩) L.length cs5.length)).setCell ⟨w.heap.size + 1, 0, none⟩ (.bool true)).cell? ⟨w.heap.size + 1, 0, none⟩ = some (.bool true) := ((K1.out.far (p := ⟨w.heap.size, 0, none⟩) (by simp) _).set_ 0 _).cell 0
  refine ⟨_, by simp [results, Tryz.results8, go_sem, s0, s1], g5, cs5, rfl, (H5.out.far (by simp; omega) _).far (by simp; omega) _, HC5.out, hcm5, HT5.out, by omega, ?_⟩
  exact ((HBEL0.out.trans (HBEL6.out.mono (by omega))).setCell (by simp) _).setCell (by simp) _

set_option maxHeartbeats 2000000 in
set_option maxRecDepth 100000 in
theorem implWriteShort_calls (w : World) (x : Int) (h0 : -32768 ≤ x) (h1 : x ≤ 32767) :
    Calls Tryz.prog 6 #[.int .i16 x] w (Told w (97 :: be (IntKind.u16.wrap x) 2)) := by
  obtain ⟨w0, hw0⟩ : ∃ w0, w0 = ((w.alloc (.cells #[.slice none 0 0] 23)).alloc (.cells #[.bool false] 4)) := ⟨_, rfl⟩
  have hsz : w0.heap.size = w.heap.size + 1 + 1 := by rw [hw0]; simp
  have hbel0 : Below w.heap.size w w0 := by rw [hw0]; exact ((Below.refl _ w).alloc (Nat.le_refl _) _).alloc (by simp) _
  obtain ⟨L, hL⟩ : ∃ L, L = 97 :: be (IntKind.u16.wrap x) 2 := ⟨_, rfl⟩
  have hLl : L.length = 3 := by rw [hL]; simp [be_length]
  have hm := marshaled_of w0 (.int .i16 x) 22 L (by omega) (by omega) (fun W gb hb => by
    have := Marshal_i16 w0 W w0.heap.size gb x [] h0 h1 hb (by simp)
    rw [List.nil_append, ← hL] at this
    exact this)
  rw [← hL]
  rw [hw0] at hm
  have HW0 := Lib.hid hw0
  have HSZ := Lib.hid hsz
  have HBEL0 := Lib.hid hbel0
  have HM := Lib.hid hm
  clear hw0 hsz hbel0 hL hLl hm
  go_enter_defers Tryz.func6, Tryz.ntmps6
  go_wp2_with (
    (go_at_call 16)
    go_must (
      (refine HM.out.mono ?_)
      rintro e w5 ⟨g5, cs5, rfl, hb5, hcs5, hcm5, ht5, hB5, hbel5⟩
      rw [← HW0.out] at hbel5 hB5
      have hbel7 := hbel5
      rw [HSZ.out, HW0.out] at hbel7
      obtain ⟨k0, k1⟩ := two_cells (W := w) hbel7
      have r0 := k0.cell 0
      have r1 := k1.cell 0
      have f0 := k0.frozen 0
      have f1 := k1.frozen 0
      have z0 := k0.lt
      have z1 := k1.lt
      have hg5 : w.heap.size + 1 + 1 ≤ g5 := by rw [← HSZ.out]; exact hB5
      have K0 := Lib.hid k0
      have K1 := Lib.hid k1
      have H5 := Lib.hid hb5
      have HT5 := Lib.hid ht5
      have HC5 := Lib.hid hcs5
      have HBEL6 : Hid (Below (w.heap.size + 1 + 1) w0 w5) := by rw [HSZ.out] at hbel5; exact hbel5
      clear k0 k1 hb5 ht5 hbel5 hbel7 hB5 hcs5))
  refine leaves_cons (f := 15) (args := #[.pointer (some ⟨w.heap.size, 0, none⟩), .pointer (some ⟨w.heap.size + 1, 0, none⟩)]) (by simp) (by simp [go_sem]) ?_
  refine (noData_idle _ _ _).mono ?_
  rintro e u' w'' ⟨rfl, rfl, rfl⟩
  have s0 : ((w5.setCell ⟨w.heap.size, 0, none⟩ (.slice (some ⟨g5, 0, none⟩) L.length cs5.length)).setCell ⟨w.heap.size + 1, 0, none⟩ (.bool true)).cell? ⟨w.heap.size, 0, none⟩ = some (.slice (some ⟨g5, 0, none⟩) L.length cs5.length) := ((K0.out.set_ 0 _).far (p := ⟨w.heap.size + 1, 0, none⟩) (by simp) _).cell 0
  have s1 : ((w5.setCell ⟨w.heap.size, 0, none⟩ (.slice (some ⟨g5, 0, none⟩) L.length cs5.length)).setCell ⟨w.heap.size + 1, 0, none⟩ (.bool true)).cell? ⟨w.heap.size + 1, 0, none⟩ = some (.bool true) := ((K1.out.far (p := ⟨w.heap.size, 0, none⟩) (by simp) _).set_ 0 _).cell 0
  refine ⟨_, by simp [results, Tryz.results6, go_sem, s0, s1], g5, cs5, rfl, (H5.out.far (by simp; omega) _).far (by simp; omega) _, HC5.out, hcm5, HT5.out, by omega, ?_⟩
  exact ((HBEL0.out.trans (HBEL6.out.mono (by omega))).setCell (by simp) _).setCell (by simp) _

end Go.Proofs.YtephkecfpepmpaaGreatDoor
