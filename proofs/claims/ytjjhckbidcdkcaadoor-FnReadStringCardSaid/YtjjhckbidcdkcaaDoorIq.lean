/- AMQP: the Buffer that is read. PRINTED by wip/geniq.py. -/
import Derived.Test.YtjjhckbidcdkcaaDoorKd
import Derived.Test.YtjjhckbidcdkcaaDoorRk
import Derived.StillTailTactics
import Derived.Deep.Cut
import Derived.BigQuiet
import Derived.Deep.DeepMust
import Derived.Lib.Hide
import Derived.Laws.BitsAllLaws
namespace Go.Proofs.YtjjhckbidcdkcaaDoor
open Go.RowKit
set_option linter.unusedVariables false

/-- Block gb of W is a Buffer over the bytes d, read up to i. -/
def RdS (W : World) (gb : Nat) (d : List Int) (i : Nat) : Prop := ∃ A c, ((A = none ∧ c = 0) ∨ ∃ g, A = some ⟨g, 0, none⟩) ∧ Blk W gb 80 [.slice A d.length c, .int .i64 i] ∧ i ≤ d.length ∧ d.length ≤ c ∧ c ≤ maxLen ∧ d.length ≤ 100000000 ∧ Reads W gb 1 A d.length (bs d)
/-- Bytes. -/
def IsByt (d : List Int) : Prop := ∀ x ∈ d, 0 ≤ x ∧ x ≤ 255
theorem RdS.below {W W' : World} {gb : Nat} {d : List Int} {i : Nat} (h : RdS W gb d i) (hb : Below W.heap.size W W') : RdS W' gb d i := by
  obtain ⟨A, c, h0, h1, h2, h3, h4, h5, h6⟩ := h
  exact ⟨A, c, h0, h1.below hb h1.lt, h2, h3, h4, h5, h6.below (hb.mono (by have := h1.lt; omega))⟩
theorem RdS.lt {W : World} {gb : Nat} {d : List Int} {i : Nat} (h : RdS W gb d i) : gb < W.heap.size := by
  obtain ⟨A, c, h0, h1, h2⟩ := h
  exact h1.lt
theorem RdS.le {W : World} {gb : Nat} {d : List Int} {i : Nat} (h : RdS W gb d i) : i ≤ d.length := by
  obtain ⟨A, c, h0, h1, h2, _⟩ := h
  exact h2
theorem New_calls (w : World) (A : Option Addr) (d : List Int) (c : Nat) (hA : (A = none ∧ c = 0) ∨ ∃ g, A = some ⟨g, 0, none⟩) (hc : d.length ≤ c) (hm : c ≤ maxLen) (hl : d.length ≤ 100000000) (hr : Reads w w.heap.size 1 A d.length (bs d)) :
    Calls Tryd.prog 29 #[.slice A d.length c] w fun e w' => e = .returned (.pointer (some ⟨w.heap.size, 0, none⟩)) ∧ RdS w' w.heap.size d 0 ∧ Below w.heap.size w w' := by
  have HR := Lib.hid hr
  clear hr
  go_enter Tryd.func29, Tryd.ntmps29
  go_wp2
  go_ret
  exact ⟨rfl, ⟨A, c, hA, Blk.new w _ [_, _], Nat.zero_le _, hc, hm, hl, HR.out.alloc (Nat.le_refl _) _⟩, (Below.refl _ w).alloc (Nat.le_refl _) _⟩
set_option maxHeartbeats 1000000 in
theorem readCheck_calls (w : World) (gb : Nat) (A : Option Addr) (n c i : Nat) (k : Int) (h : Blk w gb 80 [.slice A n c, .int .i64 i]) (hn : n ≤ 100000000) (hi : i ≤ 100000000) (hk0 : 0 ≤ k) (hk : k ≤ 1000000000000) :
    Calls Tryd.prog 93 #[.pointer (some ⟨gb, 0, none⟩), .int .i64 k] w fun e w' => e = .returned (.bool (decide ((n : Int) < (i : Int) + k))) ∧ ∃ m, w' = w.drewN m := by
  have q0 : w.cell? ⟨gb, 0, none⟩ = some (.slice A n c) := h.cell 0
  have q1 : w.cell? ⟨gb, 1, none⟩ = some (.int .i64 i) := h.cell 1
  have hg := h.lt
  have hw : wrap64 ((i : Int) + k) = (i : Int) + k := by unfold wrap64; omega
  clear h
  go_enter Tryd.func93, Tryd.ntmps93
  go_wp2
  go_quiet (fail)
  go_wp2
  go_ret
  exact ⟨rfl, nq, rfl⟩
theorem New_err (w : World) (s : ByteArray) : Calls Tryd.prog 72 #[.string s] w fun e w' => (∃ t x, e = .returned (.iface t x)) ∧ Below w.heap.size w w' := by
  go_enter Tryd.func72, Tryd.ntmps72
  go_wp2
  go_ret
  exact ⟨⟨_, _, rfl⟩, (Below.refl _ w).alloc (Nat.le_refl _) _⟩
/-- A step forward. -/
theorem RdS.step {W : World} {gb : Nat} {d : List Int} {i j n : Nat} {A : Option Addr} {c : Nat} (h0 : (A = none ∧ c = 0) ∨ ∃ g, A = some ⟨g, 0, none⟩) (h1 : Blk W gb 80 [.slice A d.length c, .int .i64 i]) (hj : j ≤ d.length) (h3 : d.length ≤ c) (h4 : c ≤ maxLen) (h5 : d.length ≤ 100000000) (h6 : Reads W gb 1 A d.length (bs d)) :
    RdS (W.setCell ⟨gb, 1, none⟩ (.int .i64 j)) gb d j ∧ Below gb W (W.setCell ⟨gb, 1, none⟩ (.int .i64 j)) :=
  ⟨⟨A, c, h0, h1.set_ 1 _, hj, h3, h4, h5, h6.setCell (Nat.le_refl _) _⟩, (Below.refl gb W).setCell (p := ⟨gb, 1, none⟩) (Nat.le_refl gb) _⟩

set_option maxHeartbeats 1000000 in
set_option maxRecDepth 100000 in
theorem ReadByte_no (w : World) (gb : Nat) (d : List Int) (i : Nat) (h : RdS w gb d i) (hi : d.length < i + 1) (te : TypeId) (ve : Value) (hE : w.cell? ⟨2, 0, none⟩ = some (.iface te ve)) :
    Calls Tryd.prog 70 #[.pointer (some ⟨gb, 0, none⟩)] w fun e w' => e = .returned (.tuple #[.int .u8 0, .iface te ve]) ∧ RdS w' gb d i ∧ Below gb w w' := by
  obtain ⟨A, c, h0, h1, h2, h3, h4, h5, h6⟩ := h
  have q0 : w.cell? ⟨gb, 0, none⟩ = some (.slice A d.length c) := h1.cell 0
  have q1 : w.cell? ⟨gb, 1, none⟩ = some (.int .i64 i) := h1.cell 1
  have f1 := h1.frozen 1
  have hg := h1.lt
  have hm' : c ≤ 9223372036854775807 := by unfold maxLen at h4; omega
  have hd : decide ((d.length : Int) < (i : Int) + 1) = true := decide_eq_true (by omega)
  have H : Hid (RdS w gb d i) := Lib.hid ⟨A, c, h0, h1, h2, h3, h4, h5, h6⟩
  have H1 := Lib.hid h1
  clear h6 h1 h0
  go_enter Tryd.func70, Tryd.ntmps70
  go_wp2_with (
    (go_at_call 93)
    go_must (
      (refine (readCheck_calls w gb A d.length c i 1 H1.out h5 (by omega) (by omega) (by omega)).mono ?_)
      rintro e w1 ⟨he, m, rfl⟩
      rw [hd] at he
      subst he))
  go_quiet (fail)
  go_wp2
  go_ret2
  exact ⟨rfl, H.out.below (below_drewN (below_drewN (Below.refl _ _) _) _), below_drewN (below_drewN (Below.refl _ _) _) _⟩

set_option maxHeartbeats 1000000 in
set_option maxRecDepth 100000 in
theorem ReadByte_yes (w : World) (gb : Nat) (d : List Int) (i : Nat) (h : RdS w gb d i) (hi : i < d.length) (b : Int) (hb : d[i]? = some b) :
    Calls Tryd.prog 70 #[.pointer (some ⟨gb, 0, none⟩)] w fun e w' => e = .returned (.tuple #[.int .u8 b, .nilIface]) ∧ RdS w' gb d (i + 1) ∧ Below gb w w' := by
  obtain ⟨A, c, h0, h1, h2, h3, h4, h5, h6⟩ := h
  have q0 : w.cell? ⟨gb, 0, none⟩ = some (.slice A d.length c) := h1.cell 0
  have q1 : w.cell? ⟨gb, 1, none⟩ = some (.int .i64 i) := h1.cell 1
  have f1 := h1.frozen 1
  have hg := h1.lt
  have hm' : c ≤ 9223372036854775807 := by unfold maxLen at h4; omega
  have hd : decide ((d.length : Int) < (i : Int) + 1) = false := decide_eq_false (by omega)
  obtain ⟨g, rfl⟩ : ∃ g, A = some ⟨g, 0, none⟩ := by
    rcases h0 with ⟨rfl, rfl⟩ | h0
    · omega
    · exact h0
  have hcell : w.cell? ⟨g, i, none⟩ = some (.int .u8 b) := by
    obtain ⟨ad, had, _, hce⟩ := h6.2 (by omega)
    injection had with had
    subst had
    have := hce i (.int .u8 b) (by unfold bs; rw [List.getElem?_map, hb]; rfl)
    rwa [add_lit, Nat.zero_add] at this
  have hgl : g < w.heap.size := by
    obtain ⟨ad, had, hlt, _⟩ := h6.2 (by omega)
    injection had with had
    subst had
    exact Nat.lt_trans hlt hg
  have hx0 : (0 : Int) ≤ (i : Int) := by omega
  have hx1 : (i : Int) < (d.length : Int) := by omega
  have hw1 : wrap64 ((i : Int) + 1) = ((i + 1 : Nat) : Int) := by unfold wrap64; omega
  have H1 := Lib.hid h1
  have H6 := Lib.hid h6
  clear h6 h1 h0
  go_enter Tryd.func70, Tryd.ntmps70
  go_wp2_with (
    (go_at_call 93)
    go_must (
      (refine (readCheck_calls w gb (some ⟨g, 0, none⟩) d.length c i 1 H1.out h5 (by omega) (by omega) (by omega)).mono ?_)
      rintro e w1 ⟨he, m, rfl⟩
      rw [hd] at he
      subst he))
  go_quiet (fail)
  go_wp2
  go_ret2
  obtain ⟨r1, r2⟩ := RdS.step (n := 0) (.inr ⟨g, rfl⟩) (H1.out.drewN (m + nq)) (show i + 1 ≤ d.length by omega) h3 h4 h5 (H6.out.drewN (m + nq))
  exact ⟨rfl, r1, (below_drewN (Below.refl _ _) _).trans r2⟩

/-- The number that bytes tell, the greatest first. -/
def valB (l : List Int) : Int := l.foldl (fun a b => a * 256 + b) 0
theorem natJ (i a b : Nat) (hb : b % 2 ^ i = 0) (ha : a < 2 ^ i) : a ||| b = b + a := by
  obtain ⟨q, rfl⟩ : ∃ q, b = q * 2 ^ i := ⟨b / 2 ^ i, by have := Nat.div_add_mod b (2 ^ i); rw [Nat.mul_comm] at this; omega⟩
  rw [Nat.or_comm]
  rw [Nat.mul_comm q]
  exact (Nat.two_pow_add_eq_or_of_lt ha q).symm
theorem join16 (a b : Int) (ha : 0 ≤ a) (ha1 : a ≤ 255) (hb : 0 ≤ b) (hb1 : b ≤ 255) : bits .or .u16 b (a * 256) = a * 256 + b := by
  rw [u16_or _ _ hb (by omega) (by omega) (by omega), natJ 8 _ _ (by omega) (by omega)]
  omega
theorem join32 (i : Nat) (u x : Int) (hu : 0 ≤ u) (hu1 : u.toNat < 2 ^ i) (hu2 : u < 4294967296) (hx : 0 ≤ x) (hx1 : x < 4294967296) (hxm : x.toNat % 2 ^ i = 0) : bits .or .u32 u x = x + u := by
  rw [u32_or _ _ hu hu2 hx hx1, natJ i _ _ hxm hu1]
  omega
theorem join64 (i : Nat) (u x : Int) (hu : 0 ≤ u) (hu1 : u.toNat < 2 ^ i) (hu2 : u < 18446744073709551616) (hx : 0 ≤ x) (hx1 : x < 18446744073709551616) (hxm : x.toNat % 2 ^ i = 0) : bits .or .u64 u x = x + u := by
  rw [u64_or _ _ hu hu2 hx hx1, natJ i _ _ hxm hu1]
  omega

set_option maxHeartbeats 2000000 in
set_option maxRecDepth 100000 in
theorem uint16_calls (w : World) (g c i : Nat) (b0 b1 : Int) (l0 : 0 ≤ b0) (m0 : b0 ≤ 255) (l1 : 0 ≤ b1) (m1 : b1 ≤ 255) (hg : g < w.heap.size) (N : Nat) (hN : 2 ≤ N)
    (q0 : w.cell? ⟨g, i, none⟩ = some (.int .u8 b0)) (q1 : w.cell? ⟨g, i + 1, none⟩ = some (.int .u8 b1)) :
    Calls Tryd.prog 94 #[.agg #[], .slice (some ⟨g, i, none⟩) N c] w fun e w' => e = .returned (.int .u16 (b0 * 256 + b1)) ∧ Below w.heap.size w w' := by
  have h0 : bits .or .u16 b1 (b0 * 256) = (b0 * 256 + b1) := join16 b0 b1 l0 m0 l1 m1
  have hn0 : (1 : Int) < (N : Int) := by omega
  go_enter Tryd.func94, Tryd.ntmps94
  go_wp2
  go_quiet (fail)
  go_wp2
  go_ret
  exact ⟨rfl, below_drewN ((Below.refl _ w).alloc (Nat.le_refl _) _) nq⟩

set_option maxHeartbeats 2000000 in
set_option maxRecDepth 100000 in
theorem uint32_calls (w : World) (g c i : Nat) (b0 b1 b2 b3 : Int) (l0 : 0 ≤ b0) (m0 : b0 ≤ 255) (l1 : 0 ≤ b1) (m1 : b1 ≤ 255) (l2 : 0 ≤ b2) (m2 : b2 ≤ 255) (l3 : 0 ≤ b3) (m3 : b3 ≤ 255) (hg : g < w.heap.size) (N : Nat) (hN : 4 ≤ N)
    (q0 : w.cell? ⟨g, i, none⟩ = some (.int .u8 b0)) (q1 : w.cell? ⟨g, i + 1, none⟩ = some (.int .u8 b1)) (q2 : w.cell? ⟨g, i + 2, none⟩ = some (.int .u8 b2)) (q3 : w.cell? ⟨g, i + 3, none⟩ = some (.int .u8 b3)) :
    Calls Tryd.prog 73 #[.agg #[], .slice (some ⟨g, i, none⟩) N c] w fun e w' => e = .returned (.int .u32 (b0 * 16777216 + (b1 * 65536 + (b2 * 256 + b3)))) ∧ Below w.heap.size w w' := by
  have h2 : bits .or .u32 b3 (b2 * 256) = (b2 * 256 + b3) := join32 8 _ _ (by omega) (by omega) (by omega) (by omega) (by omega) (by omega)
  have h1 : bits .or .u32 (b2 * 256 + b3) (b1 * 65536) = (b1 * 65536 + (b2 * 256 + b3)) := join32 16 _ _ (by omega) (by omega) (by omega) (by omega) (by omega) (by omega)
  have h0 : bits .or .u32 (b1 * 65536 + (b2 * 256 + b3)) (b0 * 16777216) = (b0 * 16777216 + (b1 * 65536 + (b2 * 256 + b3))) := join32 24 _ _ (by omega) (by omega) (by omega) (by omega) (by omega) (by omega)
  have hn0 : (3 : Int) < (N : Int) := by omega
  go_enter Tryd.func73, Tryd.ntmps73
  go_wp2
  go_quiet (fail)
  go_wp2
  go_ret
  exact ⟨rfl, below_drewN ((Below.refl _ w).alloc (Nat.le_refl _) _) nq⟩

set_option maxHeartbeats 2000000 in
set_option maxRecDepth 100000 in
theorem uint64_calls (w : World) (g c i : Nat) (b0 b1 b2 b3 b4 b5 b6 b7 : Int) (l0 : 0 ≤ b0) (m0 : b0 ≤ 255) (l1 : 0 ≤ b1) (m1 : b1 ≤ 255) (l2 : 0 ≤ b2) (m2 : b2 ≤ 255) (l3 : 0 ≤ b3) (m3 : b3 ≤ 255) (l4 : 0 ≤ b4) (m4 : b4 ≤ 255) (l5 : 0 ≤ b5) (m5 : b5 ≤ 255) (l6 : 0 ≤ b6) (m6 : b6 ≤ 255) (l7 : 0 ≤ b7) (m7 : b7 ≤ 255) (hg : g < w.heap.size) (N : Nat) (hN : 8 ≤ N)
    (q0 : w.cell? ⟨g, i, none⟩ = some (.int .u8 b0)) (q1 : w.cell? ⟨g, i + 1, none⟩ = some (.int .u8 b1)) (q2 : w.cell? ⟨g, i + 2, none⟩ = some (.int .u8 b2)) (q3 : w.cell? ⟨g, i + 3, none⟩ = some (.int .u8 b3)) (q4 : w.cell? ⟨g, i + 4, none⟩ = some (.int .u8 b4)) (q5 : w.cell? ⟨g, i + 5, none⟩ = some (.int .u8 b5)) (q6 : w.cell? ⟨g, i + 6, none⟩ = some (.int .u8 b6)) (q7 : w.cell? ⟨g, i + 7, none⟩ = some (.int .u8 b7)) :
    Calls Tryd.prog 82 #[.agg #[], .slice (some ⟨g, i, none⟩) N c] w fun e w' => e = .returned (.int .u64 (b0 * 72057594037927936 + (b1 * 281474976710656 + (b2 * 1099511627776 + (b3 * 4294967296 + (b4 * 16777216 + (b5 * 65536 + (b6 * 256 + b7)))))))) ∧ Below w.heap.size w w' := by
  have h6 : bits .or .u64 b7 (b6 * 256) = (b6 * 256 + b7) := join64 8 _ _ (by omega) (by omega) (by omega) (by omega) (by omega) (by omega)
  have h5 : bits .or .u64 (b6 * 256 + b7) (b5 * 65536) = (b5 * 65536 + (b6 * 256 + b7)) := join64 16 _ _ (by omega) (by omega) (by omega) (by omega) (by omega) (by omega)
  have h4 : bits .or .u64 (b5 * 65536 + (b6 * 256 + b7)) (b4 * 16777216) = (b4 * 16777216 + (b5 * 65536 + (b6 * 256 + b7))) := join64 24 _ _ (by omega) (by omega) (by omega) (by omega) (by omega) (by omega)
  have h3 : bits .or .u64 (b4 * 16777216 + (b5 * 65536 + (b6 * 256 + b7))) (b3 * 4294967296) = (b3 * 4294967296 + (b4 * 16777216 + (b5 * 65536 + (b6 * 256 + b7)))) := join64 32 _ _ (by omega) (by omega) (by omega) (by omega) (by omega) (by omega)
  have h2 : bits .or .u64 (b3 * 4294967296 + (b4 * 16777216 + (b5 * 65536 + (b6 * 256 + b7)))) (b2 * 1099511627776) = (b2 * 1099511627776 + (b3 * 4294967296 + (b4 * 16777216 + (b5 * 65536 + (b6 * 256 + b7))))) := join64 40 _ _ (by omega) (by omega) (by omega) (by omega) (by omega) (by omega)
  have h1 : bits .or .u64 (b2 * 1099511627776 + (b3 * 4294967296 + (b4 * 16777216 + (b5 * 65536 + (b6 * 256 + b7))))) (b1 * 281474976710656) = (b1 * 281474976710656 + (b2 * 1099511627776 + (b3 * 4294967296 + (b4 * 16777216 + (b5 * 65536 + (b6 * 256 + b7)))))) := join64 48 _ _ (by omega) (by omega) (by omega) (by omega) (by omega) (by omega)
  have h0 : bits .or .u64 (b1 * 281474976710656 + (b2 * 1099511627776 + (b3 * 4294967296 + (b4 * 16777216 + (b5 * 65536 + (b6 * 256 + b7)))))) (b0 * 72057594037927936) = (b0 * 72057594037927936 + (b1 * 281474976710656 + (b2 * 1099511627776 + (b3 * 4294967296 + (b4 * 16777216 + (b5 * 65536 + (b6 * 256 + b7))))))) := join64 56 _ _ (by omega) (by omega) (by omega) (by omega) (by omega) (by omega)
  have hn0 : (7 : Int) < (N : Int) := by omega
  go_enter Tryd.func82, Tryd.ntmps82
  go_wp2
  go_quiet (fail)
  go_wp2
  go_ret
  exact ⟨rfl, below_drewN ((Below.refl _ w).alloc (Nat.le_refl _) _) nq⟩

theorem valB_snoc (l : List Int) (x : Int) : valB (l ++ [x]) = valB l * 256 + x := by unfold valB; rw [List.foldl_append]; rfl
theorem take_more (d : List Int) (i n : Nat) (h : i + n < d.length) : (d.drop i).take (n + 1) = (d.drop i).take n ++ [d.getD (i + n) 0] := by
  rw [take_snoc_getD _ _ (by rw [List.length_drop]; omega)]
  simp
theorem getD_some {d : List Int} {i : Nat} (h : i < d.length) : d[i]? = some (d.getD i 0) := by simp [h]
theorem wrapQ (u : Int) : IntKind.i64.wrap u = wrap64 u := by
  simp [IntKind.wrap, IntKind.bits, IntKind.signed, wrap64]
  split <;> omega

set_option maxHeartbeats 1000000 in
set_option maxRecDepth 100000 in
theorem ReadUint16_no (w : World) (gb : Nat) (d : List Int) (i : Nat) (h : RdS w gb d i) (hi : d.length < i + 2) (te : TypeId) (ve : Value) (hE : w.cell? ⟨2, 0, none⟩ = some (.iface te ve)) :
    Calls Tryd.prog 83 #[.pointer (some ⟨gb, 0, none⟩)] w fun e w' => e = .returned (.tuple #[.int .u16 0, .iface te ve]) ∧ RdS w' gb d i ∧ Below gb w w' := by
  obtain ⟨A, c, h0, h1, h2, h3, h4, h5, h6⟩ := h
  have q0 : w.cell? ⟨gb, 0, none⟩ = some (.slice A d.length c) := h1.cell 0
  have q1 : w.cell? ⟨gb, 1, none⟩ = some (.int .i64 i) := h1.cell 1
  have f1 := h1.frozen 1
  have hg := h1.lt
  have hm' : c ≤ 9223372036854775807 := by unfold maxLen at h4; omega
  have hd : decide ((d.length : Int) < (i : Int) + 2) = true := decide_eq_true (by omega)
  have H : Hid (RdS w gb d i) := Lib.hid ⟨A, c, h0, h1, h2, h3, h4, h5, h6⟩
  have H1 := Lib.hid h1
  clear h6 h1 h0
  go_enter Tryd.func83, Tryd.ntmps83
  go_wp2_with (
    (go_at_call 93)
    go_must (
      (refine (readCheck_calls w gb A d.length c i 2 H1.out h5 (by omega) (by omega) (by omega)).mono ?_)
      rintro e w1 ⟨he, m, rfl⟩
      rw [hd] at he
      subst he))
  go_quiet (fail)
  go_wp2
  go_ret2
  exact ⟨rfl, H.out.below (below_drewN (below_drewN (Below.refl _ _) _) _), below_drewN (below_drewN (Below.refl _ _) _) _⟩

set_option maxHeartbeats 2000000 in
set_option maxRecDepth 100000 in
theorem ReadUint16_yes (w : World) (gb : Nat) (d : List Int) (i : Nat) (h : RdS w gb d i) (hB : IsByt d) (hi : i + 2 ≤ d.length) :
    Calls Tryd.prog 83 #[.pointer (some ⟨gb, 0, none⟩)] w fun e w' => e = .returned (.tuple #[.int .u16 (valB ((d.drop i).take 2)), .nilIface]) ∧ RdS w' gb d (i + 2) ∧ Below gb w w' := by
  obtain ⟨A, c, h0, h1, h2, h3, h4, h5, h6⟩ := h
  have q0 : w.cell? ⟨gb, 0, none⟩ = some (.slice A d.length c) := h1.cell 0
  have q1 : w.cell? ⟨gb, 1, none⟩ = some (.int .i64 i) := h1.cell 1
  have f1 := h1.frozen 1
  have hg := h1.lt
  have hm' : c ≤ 9223372036854775807 := by unfold maxLen at h4; omega
  have hd : decide ((d.length : Int) < (i : Int) + 2) = false := decide_eq_false (by omega)
  obtain ⟨g, rfl⟩ : ∃ g, A = some ⟨g, 0, none⟩ := by
    rcases h0 with ⟨rfl, rfl⟩ | h0
    · omega
    · exact h0
  have hcell : ∀ j, j < d.length → w.cell? ⟨g, j, none⟩ = some (.int .u8 (d.getD j 0)) := fun j hj => by
    obtain ⟨ad, had, _, hce⟩ := h6.2 (by omega)
    injection had with had
    subst had
    have := hce j (.int .u8 (d.getD j 0)) (by unfold bs; rw [List.getElem?_map, getD_some hj]; rfl)
    rwa [add_lit, Nat.zero_add] at this
  have hgl : g < w.heap.size := by
    obtain ⟨ad, had, hlt, _⟩ := h6.2 (by omega)
    injection had with had
    subst had
    exact Nat.lt_trans hlt hg
  have c0 := hcell i (by omega)
  obtain ⟨l0, m0⟩ := hB _ (getD_mem d i (by omega))
  have c1 := hcell (i + 1) (by omega)
  obtain ⟨l1, m1⟩ := hB _ (getD_mem d (i + 1) (by omega))
  have hval : valB ((d.drop i).take 2) = d.getD i 0 * 256 + d.getD (i + 1) 0 := by
    rw [take_more d i 1 (by omega), valB_snoc]
    rw [take_more d i 0 (by omega), valB_snoc]
    rw [List.take_zero]
    unfold valB
    simp only [List.foldl_nil, Nat.add_zero]
    omega
  generalize d.getD i 0 = b0 at *
  generalize d.getD (i + 1) 0 = b1 at *
  have hx0 : (0 : Int) ≤ (i : Int) := by omega
  have hx1 : (i : Int) ≤ (d.length : Int) := by omega
  have hx2 : (i : Int) + 2 ≤ (c : Int) := by omega
  have hx3 : ((i : Int) + 2).toNat = i + 2 := by omega
  have hx4 : (i : Int) ≤ (c : Int) := by omega
  have hci : ¬ c = i := by omega
  have hci2 : ¬ (i : Int) + 2 < (i : Int) := by omega
  have hw1 : wrap64 ((i : Int) + 2) = ((i + 2 : Nat) : Int) := by unfold wrap64; omega
  have hw2 : IntKind.i64.wrap ((i : Int) + 2) = ((i + 2 : Nat) : Int) := (wrapQ _).trans hw1
  have hcalls := fun (w9 : World) (N c9 : Nat) (hN : 2 ≤ N) (h9 : Below w.heap.size w w9) => uint16_calls w9 g c9 i b0 b1 l0 m0 l1 m1 (Nat.lt_of_lt_of_le hgl h9.size) N hN ((h9.cell (p := ⟨g, i, none⟩) hgl).trans c0) ((h9.cell (p := ⟨g, i + 1, none⟩) hgl).trans c1)
  rw [← hval] at hcalls
  have hld : ∀ w, (loadVar 128 ⟨0, 0, none⟩).run Tryd.prog w = .ok (.agg #[]) w := fun w => by kernel_rfl
  have H1 := Lib.hid h1
  have H6 := Lib.hid h6
  have HC := Lib.hid hcalls
  have HL := Lib.hid hB
  clear h6 h1 h0 hcell hcalls hval hB c0 l0 m0 c1 l1 m1
  go_enter Tryd.func83, Tryd.ntmps83
  go_upto_region 3 with (
    (go_at_call 93)
    go_must (
      (refine (readCheck_calls w gb (some ⟨g, 0, none⟩) d.length c i 2 H1.out h5 (by omega) (by omega) (by omega)).mono ?_)
      rintro e w1 ⟨he, m, rfl⟩
      rw [hd] at he
      subst he))
  refine wp_region_still_tail 10 (by kernel_rfl) (by kernel_rfl) ?_
  change wpStill _ _ (World.drew _) _ _ _
  simp only [List.take_succ_cons, List.take_zero, List.drop_succ_cons, List.drop_zero]
  repeat still_step
  refine wpStill_nil ?_
  change wpList _ _ _ _ _ (World.drew _)
  go_wp2_with (
    (go_at_call 94)
    go_must (
      (refine (HC.out _ _ _ (by omega) (below_drewN (Below.refl _ _) (m + 1))).mono ?_)
      rintro e w2 ⟨rfl, hb2⟩
      have hbg := (below_drewN (Below.refl w.heap.size w) (m + 1)).trans hb2
      have h12 := H1.out.below hbg hg
      have g1 : w2.cell? ⟨gb, 1, none⟩ = some (.int .i64 i) := h12.cell 1
      have gf := h12.frozen 1
      have hg2 := h12.lt
      have H12 := Lib.hid h12
      have H62 := Lib.hid (H6.out.below (hbg.mono (Nat.le_of_lt hg)))
      have HBG := Lib.hid hbg
      clear hb2 hbg h12 q0 q1 f1))
  go_ret2
  obtain ⟨r1, r2⟩ := RdS.step (n := 0) (.inr ⟨g, rfl⟩) H12.out (show i + 2 ≤ d.length by omega) h3 h4 h5 H62.out
  exact ⟨rfl, r1, (HBG.out.mono (Nat.le_of_lt hg)).trans r2⟩

set_option maxHeartbeats 1000000 in
set_option maxRecDepth 100000 in
theorem ReadUint32_no (w : World) (gb : Nat) (d : List Int) (i : Nat) (h : RdS w gb d i) (hi : d.length < i + 4) (te : TypeId) (ve : Value) (hE : w.cell? ⟨2, 0, none⟩ = some (.iface te ve)) :
    Calls Tryd.prog 84 #[.pointer (some ⟨gb, 0, none⟩)] w fun e w' => e = .returned (.tuple #[.int .u32 0, .iface te ve]) ∧ RdS w' gb d i ∧ Below gb w w' := by
  obtain ⟨A, c, h0, h1, h2, h3, h4, h5, h6⟩ := h
  have q0 : w.cell? ⟨gb, 0, none⟩ = some (.slice A d.length c) := h1.cell 0
  have q1 : w.cell? ⟨gb, 1, none⟩ = some (.int .i64 i) := h1.cell 1
  have f1 := h1.frozen 1
  have hg := h1.lt
  have hm' : c ≤ 9223372036854775807 := by unfold maxLen at h4; omega
  have hd : decide ((d.length : Int) < (i : Int) + 4) = true := decide_eq_true (by omega)
  have H : Hid (RdS w gb d i) := Lib.hid ⟨A, c, h0, h1, h2, h3, h4, h5, h6⟩
  have H1 := Lib.hid h1
  clear h6 h1 h0
  go_enter Tryd.func84, Tryd.ntmps84
  go_wp2_with (
    (go_at_call 93)
    go_must (
      (refine (readCheck_calls w gb A d.length c i 4 H1.out h5 (by omega) (by omega) (by omega)).mono ?_)
      rintro e w1 ⟨he, m, rfl⟩
      rw [hd] at he
      subst he))
  go_quiet (fail)
  go_wp2
  go_ret2
  exact ⟨rfl, H.out.below (below_drewN (below_drewN (Below.refl _ _) _) _), below_drewN (below_drewN (Below.refl _ _) _) _⟩

set_option maxHeartbeats 2000000 in
set_option maxRecDepth 100000 in
theorem ReadUint32_yes (w : World) (gb : Nat) (d : List Int) (i : Nat) (h : RdS w gb d i) (hB : IsByt d) (hi : i + 4 ≤ d.length) :
    Calls Tryd.prog 84 #[.pointer (some ⟨gb, 0, none⟩)] w fun e w' => e = .returned (.tuple #[.int .u32 (valB ((d.drop i).take 4)), .nilIface]) ∧ RdS w' gb d (i + 4) ∧ Below gb w w' := by
  obtain ⟨A, c, h0, h1, h2, h3, h4, h5, h6⟩ := h
  have q0 : w.cell? ⟨gb, 0, none⟩ = some (.slice A d.length c) := h1.cell 0
  have q1 : w.cell? ⟨gb, 1, none⟩ = some (.int .i64 i) := h1.cell 1
  have f1 := h1.frozen 1
  have hg := h1.lt
  have hm' : c ≤ 9223372036854775807 := by unfold maxLen at h4; omega
  have hd : decide ((d.length : Int) < (i : Int) + 4) = false := decide_eq_false (by omega)
  obtain ⟨g, rfl⟩ : ∃ g, A = some ⟨g, 0, none⟩ := by
    rcases h0 with ⟨rfl, rfl⟩ | h0
    · omega
    · exact h0
  have hcell : ∀ j, j < d.length → w.cell? ⟨g, j, none⟩ = some (.int .u8 (d.getD j 0)) := fun j hj => by
    obtain ⟨ad, had, _, hce⟩ := h6.2 (by omega)
    injection had with had
    subst had
    have := hce j (.int .u8 (d.getD j 0)) (by unfold bs; rw [List.getElem?_map, getD_some hj]; rfl)
    rwa [add_lit, Nat.zero_add] at this
  have hgl : g < w.heap.size := by
    obtain ⟨ad, had, hlt, _⟩ := h6.2 (by omega)
    injection had with had
    subst had
    exact Nat.lt_trans hlt hg
  have c0 := hcell i (by omega)
  obtain ⟨l0, m0⟩ := hB _ (getD_mem d i (by omega))
  have c1 := hcell (i + 1) (by omega)
  obtain ⟨l1, m1⟩ := hB _ (getD_mem d (i + 1) (by omega))
  have c2 := hcell (i + 2) (by omega)
  obtain ⟨l2, m2⟩ := hB _ (getD_mem d (i + 2) (by omega))
  have c3 := hcell (i + 3) (by omega)
  obtain ⟨l3, m3⟩ := hB _ (getD_mem d (i + 3) (by omega))
  have hval : valB ((d.drop i).take 4) = d.getD i 0 * 16777216 + (d.getD (i + 1) 0 * 65536 + (d.getD (i + 2) 0 * 256 + d.getD (i + 3) 0)) := by
    rw [take_more d i 3 (by omega), valB_snoc]
    rw [take_more d i 2 (by omega), valB_snoc]
    rw [take_more d i 1 (by omega), valB_snoc]
    rw [take_more d i 0 (by omega), valB_snoc]
    rw [List.take_zero]
    unfold valB
    simp only [List.foldl_nil, Nat.add_zero]
    omega
  generalize d.getD i 0 = b0 at *
  generalize d.getD (i + 1) 0 = b1 at *
  generalize d.getD (i + 2) 0 = b2 at *
  generalize d.getD (i + 3) 0 = b3 at *
  have hx0 : (0 : Int) ≤ (i : Int) := by omega
  have hx1 : (i : Int) ≤ (d.length : Int) := by omega
  have hx2 : (i : Int) + 4 ≤ (c : Int) := by omega
  have hx3 : ((i : Int) + 4).toNat = i + 4 := by omega
  have hx4 : (i : Int) ≤ (c : Int) := by omega
  have hci : ¬ c = i := by omega
  have hci2 : ¬ (i : Int) + 4 < (i : Int) := by omega
  have hw1 : wrap64 ((i : Int) + 4) = ((i + 4 : Nat) : Int) := by unfold wrap64; omega
  have hw2 : IntKind.i64.wrap ((i : Int) + 4) = ((i + 4 : Nat) : Int) := (wrapQ _).trans hw1
  have hcalls := fun (w9 : World) (N c9 : Nat) (hN : 4 ≤ N) (h9 : Below w.heap.size w w9) => uint32_calls w9 g c9 i b0 b1 b2 b3 l0 m0 l1 m1 l2 m2 l3 m3 (Nat.lt_of_lt_of_le hgl h9.size) N hN ((h9.cell (p := ⟨g, i, none⟩) hgl).trans c0) ((h9.cell (p := ⟨g, i + 1, none⟩) hgl).trans c1) ((h9.cell (p := ⟨g, i + 2, none⟩) hgl).trans c2) ((h9.cell (p := ⟨g, i + 3, none⟩) hgl).trans c3)
  rw [← hval] at hcalls
  have hld : ∀ w, (loadVar 128 ⟨0, 0, none⟩).run Tryd.prog w = .ok (.agg #[]) w := fun w => by kernel_rfl
  have H1 := Lib.hid h1
  have H6 := Lib.hid h6
  have HC := Lib.hid hcalls
  have HL := Lib.hid hB
  clear h6 h1 h0 hcell hcalls hval hB c0 l0 m0 c1 l1 m1 c2 l2 m2 c3 l3 m3
  go_enter Tryd.func84, Tryd.ntmps84
  go_upto_region 3 with (
    (go_at_call 93)
    go_must (
      (refine (readCheck_calls w gb (some ⟨g, 0, none⟩) d.length c i 4 H1.out h5 (by omega) (by omega) (by omega)).mono ?_)
      rintro e w1 ⟨he, m, rfl⟩
      rw [hd] at he
      subst he))
  refine wp_region_still_tail 10 (by kernel_rfl) (by kernel_rfl) ?_
  change wpStill _ _ (World.drew _) _ _ _
  simp only [List.take_succ_cons, List.take_zero, List.drop_succ_cons, List.drop_zero]
  repeat still_step
  refine wpStill_nil ?_
  change wpList _ _ _ _ _ (World.drew _)
  go_wp2_with (
    (go_at_call 73)
    go_must (
      (refine (HC.out _ _ _ (by omega) (below_drewN (Below.refl _ _) (m + 1))).mono ?_)
      rintro e w2 ⟨rfl, hb2⟩
      have hbg := (below_drewN (Below.refl w.heap.size w) (m + 1)).trans hb2
      have h12 := H1.out.below hbg hg
      have g1 : w2.cell? ⟨gb, 1, none⟩ = some (.int .i64 i) := h12.cell 1
      have gf := h12.frozen 1
      have hg2 := h12.lt
      have H12 := Lib.hid h12
      have H62 := Lib.hid (H6.out.below (hbg.mono (Nat.le_of_lt hg)))
      have HBG := Lib.hid hbg
      clear hb2 hbg h12 q0 q1 f1))
  go_ret2
  obtain ⟨r1, r2⟩ := RdS.step (n := 0) (.inr ⟨g, rfl⟩) H12.out (show i + 4 ≤ d.length by omega) h3 h4 h5 H62.out
  exact ⟨rfl, r1, (HBG.out.mono (Nat.le_of_lt hg)).trans r2⟩

set_option maxHeartbeats 1000000 in
set_option maxRecDepth 100000 in
theorem ReadUint64_no (w : World) (gb : Nat) (d : List Int) (i : Nat) (h : RdS w gb d i) (hi : d.length < i + 8) (te : TypeId) (ve : Value) (hE : w.cell? ⟨2, 0, none⟩ = some (.iface te ve)) :
    Calls Tryd.prog 85 #[.pointer (some ⟨gb, 0, none⟩)] w fun e w' => e = .returned (.tuple #[.int .u64 0, .iface te ve]) ∧ RdS w' gb d i ∧ Below gb w w' := by
  obtain ⟨A, c, h0, h1, h2, h3, h4, h5, h6⟩ := h
  have q0 : w.cell? ⟨gb, 0, none⟩ = some (.slice A d.length c) := h1.cell 0
  have q1 : w.cell? ⟨gb, 1, none⟩ = some (.int .i64 i) := h1.cell 1
  have f1 := h1.frozen 1
  have hg := h1.lt
  have hm' : c ≤ 9223372036854775807 := by unfold maxLen at h4; omega
  have hd : decide ((d.length : Int) < (i : Int) + 8) = true := decide_eq_true (by omega)
  have H : Hid (RdS w gb d i) := Lib.hid ⟨A, c, h0, h1, h2, h3, h4, h5, h6⟩
  have H1 := Lib.hid h1
  clear h6 h1 h0
  go_enter Tryd.func85, Tryd.ntmps85
  go_wp2_with (
    (go_at_call 93)
    go_must (
      (refine (readCheck_calls w gb A d.length c i 8 H1.out h5 (by omega) (by omega) (by omega)).mono ?_)
      rintro e w1 ⟨he, m, rfl⟩
      rw [hd] at he
      subst he))
  go_quiet (fail)
  go_wp2
  go_ret2
  exact ⟨rfl, H.out.below (below_drewN (below_drewN (Below.refl _ _) _) _), below_drewN (below_drewN (Below.refl _ _) _) _⟩

set_option maxHeartbeats 2000000 in
set_option maxRecDepth 100000 in
theorem ReadUint64_yes (w : World) (gb : Nat) (d : List Int) (i : Nat) (h : RdS w gb d i) (hB : IsByt d) (hi : i + 8 ≤ d.length) :
    Calls Tryd.prog 85 #[.pointer (some ⟨gb, 0, none⟩)] w fun e w' => e = .returned (.tuple #[.int .u64 (valB ((d.drop i).take 8)), .nilIface]) ∧ RdS w' gb d (i + 8) ∧ Below gb w w' := by
  obtain ⟨A, c, h0, h1, h2, h3, h4, h5, h6⟩ := h
  have q0 : w.cell? ⟨gb, 0, none⟩ = some (.slice A d.length c) := h1.cell 0
  have q1 : w.cell? ⟨gb, 1, none⟩ = some (.int .i64 i) := h1.cell 1
  have f1 := h1.frozen 1
  have hg := h1.lt
  have hm' : c ≤ 9223372036854775807 := by unfold maxLen at h4; omega
  have hd : decide ((d.length : Int) < (i : Int) + 8) = false := decide_eq_false (by omega)
  obtain ⟨g, rfl⟩ : ∃ g, A = some ⟨g, 0, none⟩ := by
    rcases h0 with ⟨rfl, rfl⟩ | h0
    · omega
    · exact h0
  have hcell : ∀ j, j < d.length → w.cell? ⟨g, j, none⟩ = some (.int .u8 (d.getD j 0)) := fun j hj => by
    obtain ⟨ad, had, _, hce⟩ := h6.2 (by omega)
    injection had with had
    subst had
    have := hce j (.int .u8 (d.getD j 0)) (by unfold bs; rw [List.getElem?_map, getD_some hj]; rfl)
    rwa [add_lit, Nat.zero_add] at this
  have hgl : g < w.heap.size := by
    obtain ⟨ad, had, hlt, _⟩ := h6.2 (by omega)
    injection had with had
    subst had
    exact Nat.lt_trans hlt hg
  have c0 := hcell i (by omega)
  obtain ⟨l0, m0⟩ := hB _ (getD_mem d i (by omega))
  have c1 := hcell (i + 1) (by omega)
  obtain ⟨l1, m1⟩ := hB _ (getD_mem d (i + 1) (by omega))
  have c2 := hcell (i + 2) (by omega)
  obtain ⟨l2, m2⟩ := hB _ (getD_mem d (i + 2) (by omega))
  have c3 := hcell (i + 3) (by omega)
  obtain ⟨l3, m3⟩ := hB _ (getD_mem d (i + 3) (by omega))
  have c4 := hcell (i + 4) (by omega)
  obtain ⟨l4, m4⟩ := hB _ (getD_mem d (i + 4) (by omega))
  have c5 := hcell (i + 5) (by omega)
  obtain ⟨l5, m5⟩ := hB _ (getD_mem d (i + 5) (by omega))
  have c6 := hcell (i + 6) (by omega)
  obtain ⟨l6, m6⟩ := hB _ (getD_mem d (i + 6) (by omega))
  have c7 := hcell (i + 7) (by omega)
  obtain ⟨l7, m7⟩ := hB _ (getD_mem d (i + 7) (by omega))
  have hval : valB ((d.drop i).take 8) = d.getD i 0 * 72057594037927936 + (d.getD (i + 1) 0 * 281474976710656 + (d.getD (i + 2) 0 * 1099511627776 + (d.getD (i + 3) 0 * 4294967296 + (d.getD (i + 4) 0 * 16777216 + (d.getD (i + 5) 0 * 65536 + (d.getD (i + 6) 0 * 256 + d.getD (i + 7) 0)))))) := by
    rw [take_more d i 7 (by omega), valB_snoc]
    rw [take_more d i 6 (by omega), valB_snoc]
    rw [take_more d i 5 (by omega), valB_snoc]
    rw [take_more d i 4 (by omega), valB_snoc]
    rw [take_more d i 3 (by omega), valB_snoc]
    rw [take_more d i 2 (by omega), valB_snoc]
    rw [take_more d i 1 (by omega), valB_snoc]
    rw [take_more d i 0 (by omega), valB_snoc]
    rw [List.take_zero]
    unfold valB
    simp only [List.foldl_nil, Nat.add_zero]
    omega
  generalize d.getD i 0 = b0 at *
  generalize d.getD (i + 1) 0 = b1 at *
  generalize d.getD (i + 2) 0 = b2 at *
  generalize d.getD (i + 3) 0 = b3 at *
  generalize d.getD (i + 4) 0 = b4 at *
  generalize d.getD (i + 5) 0 = b5 at *
  generalize d.getD (i + 6) 0 = b6 at *
  generalize d.getD (i + 7) 0 = b7 at *
  have hx0 : (0 : Int) ≤ (i : Int) := by omega
  have hx1 : (i : Int) ≤ (d.length : Int) := by omega
  have hx2 : (i : Int) + 8 ≤ (c : Int) := by omega
  have hx3 : ((i : Int) + 8).toNat = i + 8 := by omega
  have hx4 : (i : Int) ≤ (c : Int) := by omega
  have hci : ¬ c = i := by omega
  have hci2 : ¬ (i : Int) + 8 < (i : Int) := by omega
  have hw1 : wrap64 ((i : Int) + 8) = ((i + 8 : Nat) : Int) := by unfold wrap64; omega
  have hw2 : IntKind.i64.wrap ((i : Int) + 8) = ((i + 8 : Nat) : Int) := (wrapQ _).trans hw1
  have hcalls := fun (w9 : World) (N c9 : Nat) (hN : 8 ≤ N) (h9 : Below w.heap.size w w9) => uint64_calls w9 g c9 i b0 b1 b2 b3 b4 b5 b6 b7 l0 m0 l1 m1 l2 m2 l3 m3 l4 m4 l5 m5 l6 m6 l7 m7 (Nat.lt_of_lt_of_le hgl h9.size) N hN ((h9.cell (p := ⟨g, i, none⟩) hgl).trans c0) ((h9.cell (p := ⟨g, i + 1, none⟩) hgl).trans c1) ((h9.cell (p := ⟨g, i + 2, none⟩) hgl).trans c2) ((h9.cell (p := ⟨g, i + 3, none⟩) hgl).trans c3) ((h9.cell (p := ⟨g, i + 4, none⟩) hgl).trans c4) ((h9.cell (p := ⟨g, i + 5, none⟩) hgl).trans c5) ((h9.cell (p := ⟨g, i + 6, none⟩) hgl).trans c6) ((h9.cell (p := ⟨g, i + 7, none⟩) hgl).trans c7)
  rw [← hval] at hcalls
  have hld : ∀ w, (loadVar 128 ⟨0, 0, none⟩).run Tryd.prog w = .ok (.agg #[]) w := fun w => by kernel_rfl
  have H1 := Lib.hid h1
  have H6 := Lib.hid h6
  have HC := Lib.hid hcalls
  have HL := Lib.hid hB
  clear h6 h1 h0 hcell hcalls hval hB c0 l0 m0 c1 l1 m1 c2 l2 m2 c3 l3 m3 c4 l4 m4 c5 l5 m5 c6 l6 m6 c7 l7 m7
  go_enter Tryd.func85, Tryd.ntmps85
  go_upto_region 3 with (
    (go_at_call 93)
    go_must (
      (refine (readCheck_calls w gb (some ⟨g, 0, none⟩) d.length c i 8 H1.out h5 (by omega) (by omega) (by omega)).mono ?_)
      rintro e w1 ⟨he, m, rfl⟩
      rw [hd] at he
      subst he))
  refine wp_region_still_tail 15 (by kernel_rfl) (by kernel_rfl) ?_
  change wpStill _ _ (World.drew _) _ _ _
  simp only [List.take_succ_cons, List.take_zero, List.drop_succ_cons, List.drop_zero]
  repeat still_step
  refine wpStill_nil ?_
  change wpList _ _ _ _ _ (World.drew _)
  go_wp2_with (
    (go_at_call 82)
    go_must (
      (refine (HC.out _ _ _ (by omega) (below_drewN (Below.refl _ _) (m + 1))).mono ?_)
      rintro e w2 ⟨rfl, hb2⟩
      have hbg := (below_drewN (Below.refl w.heap.size w) (m + 1)).trans hb2
      have h12 := H1.out.below hbg hg
      have g1 : w2.cell? ⟨gb, 1, none⟩ = some (.int .i64 i) := h12.cell 1
      have gf := h12.frozen 1
      have hg2 := h12.lt
      have H12 := Lib.hid h12
      have H62 := Lib.hid (H6.out.below (hbg.mono (Nat.le_of_lt hg)))
      have HBG := Lib.hid hbg
      clear hb2 hbg h12 q0 q1 f1))
  go_ret2
  obtain ⟨r1, r2⟩ := RdS.step (n := 0) (.inr ⟨g, rfl⟩) H12.out (show i + 8 ≤ d.length by omega) h3 h4 h5 H62.out
  exact ⟨rfl, r1, (HBG.out.mono (Nat.le_of_lt hg)).trans r2⟩

set_option maxHeartbeats 1000000 in
set_option maxRecDepth 100000 in
theorem Next_yes (w : World) (gb : Nat) (d : List Int) (i k : Nat) (h : RdS w gb d i) (hi : i + k ≤ d.length) :
    Calls Tryd.prog 71 #[.pointer (some ⟨gb, 0, none⟩), .int .i64 k] w fun e w' => ∃ A' c', e = .returned (.tuple #[.slice A' k c', .bool true]) ∧ (0 < k → ∃ g, A' = some ⟨g, i, none⟩) ∧ Reads w' gb 1 A' k (bs ((d.drop i).take k)) ∧ k ≤ c' ∧ c' ≤ maxLen ∧ RdS w' gb d (i + k) ∧ Below gb w w' := by
  obtain ⟨A, c, h0, h1, h2, h3, h4, h5, h6⟩ := h
  have q0 : w.cell? ⟨gb, 0, none⟩ = some (.slice A d.length c) := h1.cell 0
  have q1 : w.cell? ⟨gb, 1, none⟩ = some (.int .i64 i) := h1.cell 1
  have f1 := h1.frozen 1
  have hg := h1.lt
  have hm' : c ≤ 9223372036854775807 := by unfold maxLen at h4; omega
  have hd : decide ((d.length : Int) < (i : Int) + (k : Int)) = false := decide_eq_false (by omega)
  have hx0 : (0 : Int) ≤ (i : Int) := by omega
  have hx2 : (i : Int) + (k : Int) ≤ (c : Int) := by omega
  have hx3 : ((i : Int) + (k : Int)).toNat = i + k := by omega
  have hx4 : (i : Int) ≤ (c : Int) := by omega
  have hx5 : (i : Int) ≤ (i : Int) + (k : Int) := by omega
  have hx6 : i + k ≤ c := by omega
  have hx7 : ¬ (i : Int) + (k : Int) < (i : Int) := by omega
  have hw1 : wrap64 ((i : Int) + (k : Int)) = (i : Int) + (k : Int) := by unfold wrap64; omega
  have hw2 : IntKind.i64.wrap ((i : Int) + (k : Int)) = (i : Int) + (k : Int) := (wrapQ _).trans hw1
  have hr := (h6.cut h2 h3).take1 (show k ≤ d.length - i by omega)
  rw [Nat.mul_one, bs_drop, bs_take] at hr
  have HR := Lib.hid hr
  have H1 := Lib.hid h1
  have H6 := Lib.hid h6
  have H0 := Lib.hid h0
  clear h6 h1 hr
  rcases h0 with ⟨rfl, rfl⟩ | ⟨g, rfl⟩
  · obtain rfl : k = 0 := by omega
    obtain rfl : i = 0 := by omega
    go_enter Tryd.func71, Tryd.ntmps71
    go_wp2_with (
      (go_at_call 93)
      go_must (
        (refine (readCheck_calls w gb none d.length 0 0 0 H1.out h5 (by omega) (by omega) (by omega)).mono ?_)
        rintro e w1 ⟨he, m, rfl⟩
        rw [show decide ((d.length : Int) < ((0 : Nat) : Int) + 0) = false from hd] at he
        subst he))
    go_quiet (fail)
    go_wp2
    go_ret2
    obtain ⟨r1, r2⟩ := RdS.step (n := 0) (.inl ⟨rfl, rfl⟩) (H1.out.drewN (m + nq)) (show 0 + 0 ≤ d.length by omega) h3 h4 h5 (H6.out.drewN (m + nq))
    exact ⟨none, 0, rfl, fun h => absurd h (by omega), by (simp only [List.take_zero]); exact Reads.none_, Nat.le_refl _, by simp [maxLen], r1, (below_drewN (Below.refl _ _) _).trans r2⟩
  by_cases hci : c = i
  · obtain rfl : k = 0 := by omega
    subst hci
    go_enter Tryd.func71, Tryd.ntmps71
    go_wp2_with (
      (go_at_call 93)
      go_must (
        (refine (readCheck_calls w gb (some ⟨g, 0, none⟩) d.length c c 0 H1.out h5 (by omega) (by omega) (by omega)).mono ?_)
        rintro e w1 ⟨he, m, rfl⟩
        rw [show decide ((d.length : Int) < (c : Int) + 0) = false from hd] at he
        subst he))
    go_quiet (fail)
    go_wp2
    go_ret2
    obtain ⟨r1, r2⟩ := RdS.step (n := 0) H0.out (H1.out.drewN (m + nq)) (show c + 0 ≤ d.length by omega) h3 h4 h5 (H6.out.drewN (m + nq))
    exact ⟨_, _, rfl, fun h => absurd h (by omega), ⟨by simp [bs], fun h => absurd h (by omega)⟩, by omega, by omega, r1, (below_drewN (Below.refl _ _) _).trans r2⟩
  · rw [if_neg hci, Option.map_some, add_lit, Nat.zero_add] at HR
    go_enter Tryd.func71, Tryd.ntmps71
    go_wp2_with (
      (go_at_call 93)
      go_must (
        (refine (readCheck_calls w gb (some ⟨g, 0, none⟩) d.length c i k H1.out h5 (by omega) (by omega) (by omega)).mono ?_)
        rintro e w1 ⟨he, m, rfl⟩
        rw [hd] at he
        subst he))
    go_quiet (fail)
    go_wp2
    go_ret2
    obtain ⟨r1, r2⟩ := RdS.step (n := 0) H0.out (H1.out.drewN (m + nq)) (show i + k ≤ d.length by omega) h3 h4 h5 (H6.out.drewN (m + nq))
    exact ⟨_, _, rfl, fun _ => ⟨g, rfl⟩, ((HR.out.drewN _).setCell (Nat.le_refl _) _), by omega, by omega, r1, (below_drewN (Below.refl _ _) _).trans r2⟩
set_option maxHeartbeats 1000000 in
set_option maxRecDepth 100000 in
theorem Next_no (w : World) (gb : Nat) (d : List Int) (i : Nat) (k : Int) (h : RdS w gb d i) (hk0 : 0 ≤ k) (hk1 : k ≤ 1000000000000) (hi : (d.length : Int) < i + k) :
    Calls Tryd.prog 71 #[.pointer (some ⟨gb, 0, none⟩), .int .i64 k] w fun e w' => ∃ v, e = .returned (.tuple #[v, .bool false]) ∧ RdS w' gb d d.length ∧ Below gb w w' := by
  obtain ⟨A, c, h0, h1, h2, h3, h4, h5, h6⟩ := h
  have q0 : w.cell? ⟨gb, 0, none⟩ = some (.slice A d.length c) := h1.cell 0
  have q1 : w.cell? ⟨gb, 1, none⟩ = some (.int .i64 i) := h1.cell 1
  have f1 := h1.frozen 1
  have hg := h1.lt
  have hm' : c ≤ 9223372036854775807 := by unfold maxLen at h4; omega
  have hd : decide ((d.length : Int) < (i : Int) + k) = true := decide_eq_true hi
  have hx0 : (0 : Int) ≤ (i : Int) := by omega
  have hx2 : (d.length : Int) ≤ (c : Int) := by omega
  have hx4 : (i : Int) ≤ (d.length : Int) := by omega
  have hx7 : ¬ (d.length : Int) < (i : Int) := by omega
  have H1 := Lib.hid h1
  have H6 := Lib.hid h6
  have H0 := Lib.hid h0
  clear h6 h1
  rcases h0 with ⟨rfl, rfl⟩ | ⟨g, rfl⟩
  · go_enter Tryd.func71, Tryd.ntmps71
    go_wp2_with (
      (go_at_call 93)
      go_must (
        (refine (readCheck_calls w gb none d.length 0 i k H1.out h5 (by omega) hk0 hk1).mono ?_)
        rintro e w1 ⟨he, m, rfl⟩
        rw [hd] at he
        subst he))
    go_quiet (fail)
    go_wp2
    go_ret2
    obtain ⟨r1, r2⟩ := RdS.step (n := 0) (.inl ⟨rfl, rfl⟩) (H1.out.drewN (m + nq)) (Nat.le_refl _) h3 h4 h5 (H6.out.drewN (m + nq))
    exact ⟨_, rfl, r1, (below_drewN (Below.refl _ _) _).trans r2⟩
  by_cases hci : c = i
  · subst hci
    go_enter Tryd.func71, Tryd.ntmps71
    go_wp2_with (
      (go_at_call 93)
      go_must (
        (refine (readCheck_calls w gb (some ⟨g, 0, none⟩) d.length c c k H1.out h5 (by omega) hk0 hk1).mono ?_)
        rintro e w1 ⟨he, m, rfl⟩
        rw [hd] at he
        subst he))
    go_quiet (fail)
    go_wp2
    go_ret2
    obtain ⟨r1, r2⟩ := RdS.step (n := 0) H0.out (H1.out.drewN (m + nq)) (Nat.le_refl _) h3 h4 h5 (H6.out.drewN (m + nq))
    exact ⟨_, rfl, r1, (below_drewN (Below.refl _ _) _).trans r2⟩
  · go_enter Tryd.func71, Tryd.ntmps71
    go_wp2_with (
      (go_at_call 93)
      go_must (
        (refine (readCheck_calls w gb (some ⟨g, 0, none⟩) d.length c i k H1.out h5 (by omega) hk0 hk1).mono ?_)
        rintro e w1 ⟨he, m, rfl⟩
        rw [hd] at he
        subst he))
    go_quiet (fail)
    go_wp2
    go_ret2
    obtain ⟨r1, r2⟩ := RdS.step (n := 0) H0.out (H1.out.drewN (m + nq)) (Nat.le_refl _) h3 h4 h5 (H6.out.drewN (m + nq))
    exact ⟨_, rfl, r1, (below_drewN (Below.refl _ _) _).trans r2⟩
set_option maxHeartbeats 1000000 in
theorem Len_calls (w : World) (gb : Nat) (d : List Int) (i : Nat) (h : RdS w gb d i) :
    Calls Tryd.prog 80 #[.pointer (some ⟨gb, 0, none⟩)] w fun e w' => e = .returned (.int .i64 ((d.length : Int) - i)) ∧ ∃ m, w' = w.drewN m := by
  obtain ⟨A, c, h0, h1, h2, h3, h4, h5, h6⟩ := h
  have q0 : w.cell? ⟨gb, 0, none⟩ = some (.slice A d.length c) := h1.cell 0
  have q1 : w.cell? ⟨gb, 1, none⟩ = some (.int .i64 i) := h1.cell 1
  have f1 := h1.frozen 1
  have hg := h1.lt
  have hm' : c ≤ 9223372036854775807 := by unfold maxLen at h4; omega
  have hw : wrap64 ((d.length : Int) - i) = (d.length : Int) - i := by unfold wrap64; omega
  clear h6 h1 h0
  go_enter Tryd.func80, Tryd.ntmps80
  go_wp2
  go_quiet (fail)
  go_wp2
  go_ret
  exact ⟨rfl, nq, rfl⟩
set_option maxHeartbeats 1000000 in
set_option maxRecDepth 100000 in
theorem Bytes_rest (w : World) (gb : Nat) (d : List Int) (i : Nat) (h : RdS w gb d i) :
    Calls Tryd.prog 39 #[.pointer (some ⟨gb, 0, none⟩)] w fun e w' => (∃ A' c', e = .returned (.slice A' (d.length - i) c') ∧ Reads w w.heap.size 1 A' (d.length - i) (bs (d.drop i))) ∧ ∃ n, w' = w.drewN n := by
  obtain ⟨A, c, h0, h1, h2, h3, h4, h5, h6⟩ := h
  have q0 : w.cell? ⟨gb, 0, none⟩ = some (.slice A d.length c) := h1.cell 0
  have q1 : w.cell? ⟨gb, 1, none⟩ = some (.int .i64 i) := h1.cell 1
  have f1 := h1.frozen 1
  have hg := h1.lt
  have hm' : c ≤ 9223372036854775807 := by unfold maxLen at h4; omega
  have hx0 : (0 : Int) ≤ (i : Int) := by omega
  have hx2 : (i : Int) ≤ (d.length : Int) := by omega
  have hr := (h6.cut h2 h3).more (Nat.le_of_lt hg)
  rw [Nat.mul_one, bs_drop] at hr
  have HR := Lib.hid hr
  clear h6 h1 hr
  rcases h0 with ⟨rfl, rfl⟩ | ⟨g, rfl⟩
  · obtain rfl : i = 0 := by omega
    go_enter Tryd.func39, Tryd.ntmps39
    go_wp2
    go_quiet (fail)
    go_wp2
    go_ret
    have hdn : d.length = 0 := by omega
    exact ⟨⟨none, 0, (by rw [hdn]; rfl), (by rw [hdn, List.eq_nil_of_length_eq_zero hdn]; exact Reads.none_)⟩, nq, rfl⟩
  by_cases hci : c = i
  · subst hci
    go_enter Tryd.func39, Tryd.ntmps39
    go_wp2
    go_quiet (fail)
    go_wp2
    go_ret
    have hdn : d.length - c = 0 := by omega
    exact ⟨⟨some ⟨g, 0, none⟩, 0, (by rw [hdn]; rfl), (by rw [hdn, List.drop_of_length_le (by omega)]; exact ⟨rfl, fun h => absurd h (by omega)⟩)⟩, nq, rfl⟩
  · rw [if_neg hci, Option.map_some, add_lit, Nat.zero_add] at HR
    go_enter Tryd.func39, Tryd.ntmps39
    go_wp2
    go_quiet (fail)
    go_wp2
    go_ret
    exact ⟨⟨_, _, rfl, HR.out⟩, nq, rfl⟩
end Go.Proofs.YtjjhckbidcdkcaaDoor
