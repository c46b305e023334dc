/- Contracts of the reference's takeCoded, at the codes of numbers. PRINTED by wip/genf.py. -/
import Derived.Test.YtfhaddnacdjpoaaKe
import Derived.Test.YtfhaddnacdjpoaaMap
namespace Go.Proofs.Ytfhaddnacdjpoaa
open Go.RowKit
set_option linter.unusedVariables false
/-- A value of MessagePack without values in it. -/
def pk (k u : Int) (s : ByteArray) (x : Int) : Value := .agg #[.int .i64 k, .int .u64 u, .string s, .int .i64 x, .slice none 0 0]

theorem below_set5 {B : Nat} {w W : World} (h : Below B w W) (p : Nat) (hp : B ≤ p) (a b c d e : Value) :
    Below B w (((((W.setCell ⟨p, 0, none⟩ a).setCell ⟨p, 1, none⟩ b).setCell ⟨p, 2, none⟩ c).setCell ⟨p, 3, none⟩ d).setCell ⟨p, 4, none⟩ e) :=
  ((((h.setCell hp a).setCell hp b).setCell hp c).setCell hp d).setCell hp e
theorem reads_set5 {B n s : Nat} {W : World} {A : Option Addr} {xs : List Value} (h : Reads W B s A n xs) (p : Nat) (hp : B ≤ p) (a b c d e : Value) :
    Reads (((((W.setCell ⟨p, 0, none⟩ a).setCell ⟨p, 1, none⟩ b).setCell ⟨p, 2, none⟩ c).setCell ⟨p, 3, none⟩ d).setCell ⟨p, 4, none⟩ e) B s A n xs :=
  ((((h.setCell hp a).setCell hp b).setCell hp c).setCell hp d).setCell hp e

/-- The bits of a negative number that is written in fewer bytes. -/
def sx (u H : Int) : Int := u + (18446744073709551616 - H)
theorem sh_pos (u K : Int) (hK : 0 < K) (h0 : 0 ≤ u) (h1 : u * K < 9223372036854775808) : wrap64 (u * K) / K = u := by
  have h2 : 0 ≤ u * K := Int.mul_nonneg h0 (by omega)
  have e : wrap64 (u * K) = u * K := by unfold wrap64; omega
  rw [e]
  exact Int.mul_ediv_cancel u (by omega)
theorem sh_neg (u K H : Int) (hK : 0 < K) (hH : H * K = 18446744073709551616) (h0 : 9223372036854775808 ≤ u * K) (h1 : u * K < 18446744073709551616) : wrap64 (u * K) / K = u - H := by
  have e : wrap64 (u * K) = (u - H) * K := by rw [Int.sub_mul, hH]; unfold wrap64; omega
  rw [e]
  exact Int.mul_ediv_cancel _ (by omega)
theorem sx_wrap (u H : Int) (h0 : 0 ≤ u) (h1 : u < H) (h2 : H ≤ 18446744073709551616) : IntKind.u64.wrap (u - H) = sx u H := by
  unfold sx
  rw [IntKind.wrap_u64]
  omega

theorem wrap_low (u : Int) (h0 : 9223372036854775808 ≤ u) (h1 : u < 18446744073709551616) : wrap64 u < 0 := by unfold wrap64; omega
theorem wrap_back (u : Int) (h0 : 9223372036854775808 ≤ u) (h1 : u < 18446744073709551616) : IntKind.u64.wrap (wrap64 u) = u := by rw [IntKind.wrap_u64]; unfold wrap64; omega
theorem wrap_same (u : Int) (h0 : 0 ≤ u) (h1 : u < 9223372036854775808) : wrap64 u = u := by unfold wrap64; omega

/-- A value was read, and what stands behind it is told; nothing that was there has turned. -/
def Coded (w : World) (B : Nat) (v : Value) (l : List Int) (e : Ending) (w' : World) : Prop :=
  ∃ A' c', e = .returned (.tuple #[v, .slice A' l.length c', .bool true]) ∧ l.length ≤ c' ∧ c' ≤ maxLen ∧ Reads w' B 1 A' l.length (bs l) ∧ Below w.heap.size w w'

set_option maxHeartbeats 4000000 in
set_option maxRecDepth 100000 in
theorem coded202 (w : World) (B c : Nat) (A : Option Addr) (l : List Int) (h : Reads w B 1 A l.length (bs l)) (hB : B ≤ w.heap.size) (hl : IsB l) (hkl : 4 ≤ l.length) (hc : l.length ≤ c) (hm : c ≤ maxLen) :
    Calls Try.prog 25 #[.int .i64 202, .slice A l.length c, .int .i64 2] w (Coded w B (pk 4 (valBE (l.take 4)) ⟨#[]⟩ 0) (l.drop 4)) := by
  have H := Lib.hid h
  have HL := Lib.hid hl
  clear h hl
  go_enter Try.func25, Try.ntmps25
  go_wp2_with (first
    | ((with_reducible refine gate_makeMap rfl ?_)
       go_must (
         (refine wpList_makeMap_i (w0 := _) rfl 71 rfl (Below.refl _ _) (Nat.le_refl _) ?_)
         intro w1 mb HM))
    | ((with_reducible refine gate_insert rfl ?_)
       go_must (
         (have HM0 := HM)
         clear HM
         refine wpList_insert_i rfl _ _ _ 71 rfl Try.underlying71 _ _ rfl rfl rfl HM0 (by simp only [List.length_cons, List.length_nil]; omega) (by omega) (by omega) (by omega) (by omega) ?_
         intro w1 HM
         clear HM0))
    | ((with_reducible refine gate_lookup rfl ?_)
       go_must (
         (have HM0 := HM)
         clear HM
         refine wpList_lookup_i rfl _ _ 71 rfl Try.underlying71 _ rfl rfl HM0 (by omega) (by omega) 4 rfl ?_
         obtain ⟨-, hbel, -, hsz⟩ := HM0
         have hbc := bcell hbel
         obtain ⟨hbc1, hbc2⟩ := hbc
         have HR : Hid (Reads w1 B 1 A l.length (bs l)) := Reads.below ((H.out.alloc hB _).alloc (by simp; omega) _) (hbel.mono (by simp; omega))
         have HBEL : Hid (Below w.heap.size w w1) := (((Below.refl _ w).alloc (Nat.le_refl _) _).alloc (by simp) _).trans (hbel.mono (by simp; omega))
         have HBLK : Hid (Blk w1 w.heap.size 29 _) := Blk.below (((Blk.new w _ [_, _, _, _, _])).alloc _) hbel (by simp; omega)
         clear hbel))
    | (go_at_call 37
       go_must (
         (refine (takeBig_int _ B 4 _ 4 rfl A l HR.out HL.out (by omega) hkl hc hm).mono ?_)
         rintro e w2 ⟨A', c', n, rfl, hl', hc', hr', rfl⟩
         have HR2 := Lib.hid hr'
         clear hr')))
  refine bodyPost_ret (results_cell2 rfl _ rfl (blk_set5 (HBLK.out.drewN n) _ _ _ _ _) Try.underlying29 rfl (by kernel_rfl)) rfl ?_
  exact ⟨A', c', by rw [List.length_drop]; rfl, hl', by omega, reads_set5 (HR2.out.drewN n) _ hB _ _ _ _ _, below_set5 (below_drewN HBEL.out n) _ (Nat.le_refl _) _ _ _ _ _⟩

set_option maxHeartbeats 4000000 in
set_option maxRecDepth 100000 in
theorem coded203 (w : World) (B c : Nat) (A : Option Addr) (l : List Int) (h : Reads w B 1 A l.length (bs l)) (hB : B ≤ w.heap.size) (hl : IsB l) (hkl : 8 ≤ l.length) (hc : l.length ≤ c) (hm : c ≤ maxLen) :
    Calls Try.prog 25 #[.int .i64 203, .slice A l.length c, .int .i64 2] w (Coded w B (pk 5 (valBE (l.take 8)) ⟨#[]⟩ 0) (l.drop 8)) := by
  have H := Lib.hid h
  have HL := Lib.hid hl
  clear h hl
  go_enter Try.func25, Try.ntmps25
  go_wp2_with (first
    | ((with_reducible refine gate_makeMap rfl ?_)
       go_must (
         (refine wpList_makeMap_i (w0 := _) rfl 71 rfl (Below.refl _ _) (Nat.le_refl _) ?_)
         intro w1 mb HM))
    | ((with_reducible refine gate_insert rfl ?_)
       go_must (
         (have HM0 := HM)
         clear HM
         refine wpList_insert_i rfl _ _ _ 71 rfl Try.underlying71 _ _ rfl rfl rfl HM0 (by simp only [List.length_cons, List.length_nil]; omega) (by omega) (by omega) (by omega) (by omega) ?_
         intro w1 HM
         clear HM0))
    | ((with_reducible refine gate_lookup rfl ?_)
       go_must (
         (have HM0 := HM)
         clear HM
         refine wpList_lookup_i rfl _ _ 71 rfl Try.underlying71 _ rfl rfl HM0 (by omega) (by omega) 8 rfl ?_
         obtain ⟨-, hbel, -, hsz⟩ := HM0
         have hbc := bcell hbel
         obtain ⟨hbc1, hbc2⟩ := hbc
         have HR : Hid (Reads w1 B 1 A l.length (bs l)) := Reads.below ((H.out.alloc hB _).alloc (by simp; omega) _) (hbel.mono (by simp; omega))
         have HBEL : Hid (Below w.heap.size w w1) := (((Below.refl _ w).alloc (Nat.le_refl _) _).alloc (by simp) _).trans (hbel.mono (by simp; omega))
         have HBLK : Hid (Blk w1 w.heap.size 29 _) := Blk.below (((Blk.new w _ [_, _, _, _, _])).alloc _) hbel (by simp; omega)
         clear hbel))
    | (go_at_call 37
       go_must (
         (refine (takeBig_int _ B 8 _ 8 rfl A l HR.out HL.out (by omega) hkl hc hm).mono ?_)
         rintro e w2 ⟨A', c', n, rfl, hl', hc', hr', rfl⟩
         have HR2 := Lib.hid hr'
         clear hr')))
  refine bodyPost_ret (results_cell2 rfl _ rfl (blk_set5 (HBLK.out.drewN n) _ _ _ _ _) Try.underlying29 rfl (by kernel_rfl)) rfl ?_
  exact ⟨A', c', by rw [List.length_drop]; rfl, hl', by omega, reads_set5 (HR2.out.drewN n) _ hB _ _ _ _ _, below_set5 (below_drewN HBEL.out n) _ (Nat.le_refl _) _ _ _ _ _⟩

set_option maxHeartbeats 4000000 in
set_option maxRecDepth 100000 in
theorem coded204 (w : World) (B c : Nat) (A : Option Addr) (l : List Int) (h : Reads w B 1 A l.length (bs l)) (hB : B ≤ w.heap.size) (hl : IsB l) (hkl : 1 ≤ l.length) (hc : l.length ≤ c) (hm : c ≤ maxLen) :
    Calls Try.prog 25 #[.int .i64 204, .slice A l.length c, .int .i64 2] w (Coded w B (pk 3 (valBE (l.take 1)) ⟨#[]⟩ 0) (l.drop 1)) := by
  have H := Lib.hid h
  have HL := Lib.hid hl
  clear h hl
  go_enter Try.func25, Try.ntmps25
  go_wp2_with (first
    | ((with_reducible refine gate_makeMap rfl ?_)
       go_must (
         (refine wpList_makeMap_i (w0 := _) rfl 71 rfl (Below.refl _ _) (Nat.le_refl _) ?_)
         intro w1 mb HM))
    | ((with_reducible refine gate_insert rfl ?_)
       go_must (
         (have HM0 := HM)
         clear HM
         refine wpList_insert_i rfl _ _ _ 71 rfl Try.underlying71 _ _ rfl rfl rfl HM0 (by simp only [List.length_cons, List.length_nil]; omega) (by omega) (by omega) (by omega) (by omega) ?_
         intro w1 HM
         clear HM0))
    | ((with_reducible refine gate_lookup rfl ?_)
       go_must (
         (have HM0 := HM)
         clear HM
         refine wpList_lookup_i rfl _ _ 71 rfl Try.underlying71 _ rfl rfl HM0 (by omega) (by omega) 1 rfl ?_
         obtain ⟨-, hbel, -, hsz⟩ := HM0
         have hbc := bcell hbel
         obtain ⟨hbc1, hbc2⟩ := hbc
         have HR : Hid (Reads w1 B 1 A l.length (bs l)) := Reads.below ((H.out.alloc hB _).alloc (by simp; omega) _) (hbel.mono (by simp; omega))
         have HBEL : Hid (Below w.heap.size w w1) := (((Below.refl _ w).alloc (Nat.le_refl _) _).alloc (by simp) _).trans (hbel.mono (by simp; omega))
         have HBLK : Hid (Blk w1 w.heap.size 29 _) := Blk.below (((Blk.new w _ [_, _, _, _, _])).alloc _) hbel (by simp; omega)
         clear hbel))
    | (go_at_call 37
       go_must (
         (refine (takeBig_int _ B 1 _ 1 rfl A l HR.out HL.out (by omega) hkl hc hm).mono ?_)
         rintro e w2 ⟨A', c', n, rfl, hl', hc', hr', rfl⟩
         have HR2 := Lib.hid hr'
         clear hr')))
  refine bodyPost_ret (results_cell2 rfl _ rfl (blk_set5 (HBLK.out.drewN n) _ _ _ _ _) Try.underlying29 rfl (by kernel_rfl)) rfl ?_
  exact ⟨A', c', by rw [List.length_drop]; rfl, hl', by omega, reads_set5 (HR2.out.drewN n) _ hB _ _ _ _ _, below_set5 (below_drewN HBEL.out n) _ (Nat.le_refl _) _ _ _ _ _⟩

set_option maxHeartbeats 4000000 in
set_option maxRecDepth 100000 in
theorem coded205 (w : World) (B c : Nat) (A : Option Addr) (l : List Int) (h : Reads w B 1 A l.length (bs l)) (hB : B ≤ w.heap.size) (hl : IsB l) (hkl : 2 ≤ l.length) (hc : l.length ≤ c) (hm : c ≤ maxLen) :
    Calls Try.prog 25 #[.int .i64 205, .slice A l.length c, .int .i64 2] w (Coded w B (pk 3 (valBE (l.take 2)) ⟨#[]⟩ 0) (l.drop 2)) := by
  have H := Lib.hid h
  have HL := Lib.hid hl
  clear h hl
  go_enter Try.func25, Try.ntmps25
  go_wp2_with (first
    | ((with_reducible refine gate_makeMap rfl ?_)
       go_must (
         (refine wpList_makeMap_i (w0 := _) rfl 71 rfl (Below.refl _ _) (Nat.le_refl _) ?_)
         intro w1 mb HM))
    | ((with_reducible refine gate_insert rfl ?_)
       go_must (
         (have HM0 := HM)
         clear HM
         refine wpList_insert_i rfl _ _ _ 71 rfl Try.underlying71 _ _ rfl rfl rfl HM0 (by simp only [List.length_cons, List.length_nil]; omega) (by omega) (by omega) (by omega) (by omega) ?_
         intro w1 HM
         clear HM0))
    | ((with_reducible refine gate_lookup rfl ?_)
       go_must (
         (have HM0 := HM)
         clear HM
         refine wpList_lookup_i rfl _ _ 71 rfl Try.underlying71 _ rfl rfl HM0 (by omega) (by omega) 2 rfl ?_
         obtain ⟨-, hbel, -, hsz⟩ := HM0
         have hbc := bcell hbel
         obtain ⟨hbc1, hbc2⟩ := hbc
         have HR : Hid (Reads w1 B 1 A l.length (bs l)) := Reads.below ((H.out.alloc hB _).alloc (by simp; omega) _) (hbel.mono (by simp; omega))
         have HBEL : Hid (Below w.heap.size w w1) := (((Below.refl _ w).alloc (Nat.le_refl _) _).alloc (by simp) _).trans (hbel.mono (by simp; omega))
         have HBLK : Hid (Blk w1 w.heap.size 29 _) := Blk.below (((Blk.new w _ [_, _, _, _, _])).alloc _) hbel (by simp; omega)
         clear hbel))
    | (go_at_call 37
       go_must (
         (refine (takeBig_int _ B 2 _ 2 rfl A l HR.out HL.out (by omega) hkl hc hm).mono ?_)
         rintro e w2 ⟨A', c', n, rfl, hl', hc', hr', rfl⟩
         have HR2 := Lib.hid hr'
         clear hr')))
  refine bodyPost_ret (results_cell2 rfl _ rfl (blk_set5 (HBLK.out.drewN n) _ _ _ _ _) Try.underlying29 rfl (by kernel_rfl)) rfl ?_
  exact ⟨A', c', by rw [List.length_drop]; rfl, hl', by omega, reads_set5 (HR2.out.drewN n) _ hB _ _ _ _ _, below_set5 (below_drewN HBEL.out n) _ (Nat.le_refl _) _ _ _ _ _⟩

set_option maxHeartbeats 4000000 in
set_option maxRecDepth 100000 in
theorem coded206 (w : World) (B c : Nat) (A : Option Addr) (l : List Int) (h : Reads w B 1 A l.length (bs l)) (hB : B ≤ w.heap.size) (hl : IsB l) (hkl : 4 ≤ l.length) (hc : l.length ≤ c) (hm : c ≤ maxLen) :
    Calls Try.prog 25 #[.int .i64 206, .slice A l.length c, .int .i64 2] w (Coded w B (pk 3 (valBE (l.take 4)) ⟨#[]⟩ 0) (l.drop 4)) := by
  have H := Lib.hid h
  have HL := Lib.hid hl
  clear h hl
  go_enter Try.func25, Try.ntmps25
  go_wp2_with (first
    | ((with_reducible refine gate_makeMap rfl ?_)
       go_must (
         (refine wpList_makeMap_i (w0 := _) rfl 71 rfl (Below.refl _ _) (Nat.le_refl _) ?_)
         intro w1 mb HM))
    | ((with_reducible refine gate_insert rfl ?_)
       go_must (
         (have HM0 := HM)
         clear HM
         refine wpList_insert_i rfl _ _ _ 71 rfl Try.underlying71 _ _ rfl rfl rfl HM0 (by simp only [List.length_cons, List.length_nil]; omega) (by omega) (by omega) (by omega) (by omega) ?_
         intro w1 HM
         clear HM0))
    | ((with_reducible refine gate_lookup rfl ?_)
       go_must (
         (have HM0 := HM)
         clear HM
         refine wpList_lookup_i rfl _ _ 71 rfl Try.underlying71 _ rfl rfl HM0 (by omega) (by omega) 4 rfl ?_
         obtain ⟨-, hbel, -, hsz⟩ := HM0
         have hbc := bcell hbel
         obtain ⟨hbc1, hbc2⟩ := hbc
         have HR : Hid (Reads w1 B 1 A l.length (bs l)) := Reads.below ((H.out.alloc hB _).alloc (by simp; omega) _) (hbel.mono (by simp; omega))
         have HBEL : Hid (Below w.heap.size w w1) := (((Below.refl _ w).alloc (Nat.le_refl _) _).alloc (by simp) _).trans (hbel.mono (by simp; omega))
         have HBLK : Hid (Blk w1 w.heap.size 29 _) := Blk.below (((Blk.new w _ [_, _, _, _, _])).alloc _) hbel (by simp; omega)
         clear hbel))
    | (go_at_call 37
       go_must (
         (refine (takeBig_int _ B 4 _ 4 rfl A l HR.out HL.out (by omega) hkl hc hm).mono ?_)
         rintro e w2 ⟨A', c', n, rfl, hl', hc', hr', rfl⟩
         have HR2 := Lib.hid hr'
         clear hr')))
  refine bodyPost_ret (results_cell2 rfl _ rfl (blk_set5 (HBLK.out.drewN n) _ _ _ _ _) Try.underlying29 rfl (by kernel_rfl)) rfl ?_
  exact ⟨A', c', by rw [List.length_drop]; rfl, hl', by omega, reads_set5 (HR2.out.drewN n) _ hB _ _ _ _ _, below_set5 (below_drewN HBEL.out n) _ (Nat.le_refl _) _ _ _ _ _⟩

set_option maxHeartbeats 4000000 in
set_option maxRecDepth 100000 in
theorem coded207 (w : World) (B c : Nat) (A : Option Addr) (l : List Int) (h : Reads w B 1 A l.length (bs l)) (hB : B ≤ w.heap.size) (hl : IsB l) (hkl : 8 ≤ l.length) (hc : l.length ≤ c) (hm : c ≤ maxLen) :
    Calls Try.prog 25 #[.int .i64 207, .slice A l.length c, .int .i64 2] w (Coded w B (pk 3 (valBE (l.take 8)) ⟨#[]⟩ 0) (l.drop 8)) := by
  have H := Lib.hid h
  have HL := Lib.hid hl
  clear h hl
  go_enter Try.func25, Try.ntmps25
  go_wp2_with (first
    | ((with_reducible refine gate_makeMap rfl ?_)
       go_must (
         (refine wpList_makeMap_i (w0 := _) rfl 71 rfl (Below.refl _ _) (Nat.le_refl _) ?_)
         intro w1 mb HM))
    | ((with_reducible refine gate_insert rfl ?_)
       go_must (
         (have HM0 := HM)
         clear HM
         refine wpList_insert_i rfl _ _ _ 71 rfl Try.underlying71 _ _ rfl rfl rfl HM0 (by simp only [List.length_cons, List.length_nil]; omega) (by omega) (by omega) (by omega) (by omega) ?_
         intro w1 HM
         clear HM0))
    | ((with_reducible refine gate_lookup rfl ?_)
       go_must (
         (have HM0 := HM)
         clear HM
         refine wpList_lookup_i rfl _ _ 71 rfl Try.underlying71 _ rfl rfl HM0 (by omega) (by omega) 8 rfl ?_
         obtain ⟨-, hbel, -, hsz⟩ := HM0
         have hbc := bcell hbel
         obtain ⟨hbc1, hbc2⟩ := hbc
         have HR : Hid (Reads w1 B 1 A l.length (bs l)) := Reads.below ((H.out.alloc hB _).alloc (by simp; omega) _) (hbel.mono (by simp; omega))
         have HBEL : Hid (Below w.heap.size w w1) := (((Below.refl _ w).alloc (Nat.le_refl _) _).alloc (by simp) _).trans (hbel.mono (by simp; omega))
         have HBLK : Hid (Blk w1 w.heap.size 29 _) := Blk.below (((Blk.new w _ [_, _, _, _, _])).alloc _) hbel (by simp; omega)
         clear hbel))
    | (go_at_call 37
       go_must (
         (refine (takeBig_int _ B 8 _ 8 rfl A l HR.out HL.out (by omega) hkl hc hm).mono ?_)
         rintro e w2 ⟨A', c', n, rfl, hl', hc', hr', rfl⟩
         have HR2 := Lib.hid hr'
         clear hr')))
  refine bodyPost_ret (results_cell2 rfl _ rfl (blk_set5 (HBLK.out.drewN n) _ _ _ _ _) Try.underlying29 rfl (by kernel_rfl)) rfl ?_
  exact ⟨A', c', by rw [List.length_drop]; rfl, hl', by omega, reads_set5 (HR2.out.drewN n) _ hB _ _ _ _ _, below_set5 (below_drewN HBEL.out n) _ (Nat.le_refl _) _ _ _ _ _⟩

set_option maxHeartbeats 4000000 in
set_option maxRecDepth 100000 in
theorem coded208p (w : World) (B c : Nat) (A : Option Addr) (l : List Int) (h : Reads w B 1 A l.length (bs l)) (hB : B ≤ w.heap.size) (hl : IsB l) (hkl : 1 ≤ l.length) (hc : l.length ≤ c) (hm : c ≤ maxLen) (u : Int) (hu : valBE (l.take 1) = u) (h0 : 0 ≤ u) (h1 : u < 128) :
    Calls Try.prog 25 #[.int .i64 208, .slice A l.length c, .int .i64 2] w (Coded w B (pk 3 u ⟨#[]⟩ 0) (l.drop 1)) := by
  have H := Lib.hid h
  have HL := Lib.hid hl
  have HU := Lib.hid hu
  clear hu
  have hsh : wrap64 (u * 72057594037927936) / 72057594037927936 = u := sh_pos u 72057594037927936 (by omega) h0 (by omega)
  clear h hl
  go_enter Try.func25, Try.ntmps25
  go_wp2_with (first
    | ((with_reducible refine gate_makeMap rfl ?_)
       go_must (
         (refine wpList_makeMap_i (w0 := _) rfl 71 rfl (Below.refl _ _) (Nat.le_refl _) ?_)
         intro w1 mb HM))
    | ((with_reducible refine gate_insert rfl ?_)
       go_must (
         (have HM0 := HM)
         clear HM
         refine wpList_insert_i rfl _ _ _ 71 rfl Try.underlying71 _ _ rfl rfl rfl HM0 (by simp only [List.length_cons, List.length_nil]; omega) (by omega) (by omega) (by omega) (by omega) ?_
         intro w1 HM
         clear HM0))
    | ((with_reducible refine gate_lookup rfl ?_)
       go_must (
         (have HM0 := HM)
         clear HM
         refine wpList_lookup_i rfl _ _ 71 rfl Try.underlying71 _ rfl rfl HM0 (by omega) (by omega) 1 rfl ?_
         obtain ⟨-, hbel, -, hsz⟩ := HM0
         have hbc := bcell hbel
         obtain ⟨hbc1, hbc2⟩ := hbc
         have HR : Hid (Reads w1 B 1 A l.length (bs l)) := Reads.below ((H.out.alloc hB _).alloc (by simp; omega) _) (hbel.mono (by simp; omega))
         have HBEL : Hid (Below w.heap.size w w1) := (((Below.refl _ w).alloc (Nat.le_refl _) _).alloc (by simp) _).trans (hbel.mono (by simp; omega))
         have HBLK : Hid (Blk w1 w.heap.size 29 _) := Blk.below (((Blk.new w _ [_, _, _, _, _])).alloc _) hbel (by simp; omega)
         clear hbel))
    | (go_at_call 37
       go_must (
         (refine (takeBig_int _ B 1 _ 1 rfl A l HR.out HL.out (by omega) hkl hc hm).mono ?_)
         rintro e w2 ⟨A', c', n, rfl, hl', hc', hr', rfl⟩
         have HR2 := Lib.hid hr'
         rw [HU.out]
         clear hr')))
  refine bodyPost_ret (results_cell2 rfl _ rfl (blk_set5 (HBLK.out.drewN n) _ _ _ _ _) Try.underlying29 rfl (by kernel_rfl)) rfl ?_
  exact ⟨A', c', by rw [List.length_drop]; rfl, hl', by omega, reads_set5 (HR2.out.drewN n) _ hB _ _ _ _ _, below_set5 (below_drewN HBEL.out n) _ (Nat.le_refl _) _ _ _ _ _⟩

set_option maxHeartbeats 4000000 in
set_option maxRecDepth 100000 in
theorem coded208n (w : World) (B c : Nat) (A : Option Addr) (l : List Int) (h : Reads w B 1 A l.length (bs l)) (hB : B ≤ w.heap.size) (hl : IsB l) (hkl : 1 ≤ l.length) (hc : l.length ≤ c) (hm : c ≤ maxLen) (u : Int) (hu : valBE (l.take 1) = u) (h0 : 128 ≤ u) (h1 : u < 256) :
    Calls Try.prog 25 #[.int .i64 208, .slice A l.length c, .int .i64 2] w (Coded w B (pk 2 (sx u 256) ⟨#[]⟩ 0) (l.drop 1)) := by
  have H := Lib.hid h
  have HL := Lib.hid hl
  have HU := Lib.hid hu
  clear hu
  have hsh : wrap64 (u * 72057594037927936) / 72057594037927936 = u - 256 := sh_neg u 72057594037927936 256 (by omega) (by omega) (by omega) (by omega)
  have hsw : IntKind.u64.wrap (u - 256) = sx u 256 := sx_wrap u 256 (by omega) h1 (by omega)
  clear h hl
  go_enter Try.func25, Try.ntmps25
  go_wp2_with (first
    | ((with_reducible refine gate_makeMap rfl ?_)
       go_must (
         (refine wpList_makeMap_i (w0 := _) rfl 71 rfl (Below.refl _ _) (Nat.le_refl _) ?_)
         intro w1 mb HM))
    | ((with_reducible refine gate_insert rfl ?_)
       go_must (
         (have HM0 := HM)
         clear HM
         refine wpList_insert_i rfl _ _ _ 71 rfl Try.underlying71 _ _ rfl rfl rfl HM0 (by simp only [List.length_cons, List.length_nil]; omega) (by omega) (by omega) (by omega) (by omega) ?_
         intro w1 HM
         clear HM0))
    | ((with_reducible refine gate_lookup rfl ?_)
       go_must (
         (have HM0 := HM)
         clear HM
         refine wpList_lookup_i rfl _ _ 71 rfl Try.underlying71 _ rfl rfl HM0 (by omega) (by omega) 1 rfl ?_
         obtain ⟨-, hbel, -, hsz⟩ := HM0
         have hbc := bcell hbel
         obtain ⟨hbc1, hbc2⟩ := hbc
         have HR : Hid (Reads w1 B 1 A l.length (bs l)) := Reads.below ((H.out.alloc hB _).alloc (by simp; omega) _) (hbel.mono (by simp; omega))
         have HBEL : Hid (Below w.heap.size w w1) := (((Below.refl _ w).alloc (Nat.le_refl _) _).alloc (by simp) _).trans (hbel.mono (by simp; omega))
         have HBLK : Hid (Blk w1 w.heap.size 29 _) := Blk.below (((Blk.new w _ [_, _, _, _, _])).alloc _) hbel (by simp; omega)
         clear hbel))
    | (go_at_call 37
       go_must (
         (refine (takeBig_int _ B 1 _ 1 rfl A l HR.out HL.out (by omega) hkl hc hm).mono ?_)
         rintro e w2 ⟨A', c', n, rfl, hl', hc', hr', rfl⟩
         have HR2 := Lib.hid hr'
         rw [HU.out]
         clear hr')))
  refine bodyPost_ret (results_cell2 rfl _ rfl (blk_set5 (HBLK.out.drewN n) _ _ _ _ _) Try.underlying29 rfl (by kernel_rfl)) rfl ?_
  exact ⟨A', c', by rw [List.length_drop]; rfl, hl', by omega, reads_set5 (HR2.out.drewN n) _ hB _ _ _ _ _, below_set5 (below_drewN HBEL.out n) _ (Nat.le_refl _) _ _ _ _ _⟩

set_option maxHeartbeats 4000000 in
set_option maxRecDepth 100000 in
theorem coded209p (w : World) (B c : Nat) (A : Option Addr) (l : List Int) (h : Reads w B 1 A l.length (bs l)) (hB : B ≤ w.heap.size) (hl : IsB l) (hkl : 2 ≤ l.length) (hc : l.length ≤ c) (hm : c ≤ maxLen) (u : Int) (hu : valBE (l.take 2) = u) (h0 : 0 ≤ u) (h1 : u < 32768) :
    Calls Try.prog 25 #[.int .i64 209, .slice A l.length c, .int .i64 2] w (Coded w B (pk 3 u ⟨#[]⟩ 0) (l.drop 2)) := by
  have H := Lib.hid h
  have HL := Lib.hid hl
  have HU := Lib.hid hu
  clear hu
  have hsh : wrap64 (u * 281474976710656) / 281474976710656 = u := sh_pos u 281474976710656 (by omega) h0 (by omega)
  clear h hl
  go_enter Try.func25, Try.ntmps25
  go_wp2_with (first
    | ((with_reducible refine gate_makeMap rfl ?_)
       go_must (
         (refine wpList_makeMap_i (w0 := _) rfl 71 rfl (Below.refl _ _) (Nat.le_refl _) ?_)
         intro w1 mb HM))
    | ((with_reducible refine gate_insert rfl ?_)
       go_must (
         (have HM0 := HM)
         clear HM
         refine wpList_insert_i rfl _ _ _ 71 rfl Try.underlying71 _ _ rfl rfl rfl HM0 (by simp only [List.length_cons, List.length_nil]; omega) (by omega) (by omega) (by omega) (by omega) ?_
         intro w1 HM
         clear HM0))
    | ((with_reducible refine gate_lookup rfl ?_)
       go_must (
         (have HM0 := HM)
         clear HM
         refine wpList_lookup_i rfl _ _ 71 rfl Try.underlying71 _ rfl rfl HM0 (by omega) (by omega) 2 rfl ?_
         obtain ⟨-, hbel, -, hsz⟩ := HM0
         have hbc := bcell hbel
         obtain ⟨hbc1, hbc2⟩ := hbc
         have HR : Hid (Reads w1 B 1 A l.length (bs l)) := Reads.below ((H.out.alloc hB _).alloc (by simp; omega) _) (hbel.mono (by simp; omega))
         have HBEL : Hid (Below w.heap.size w w1) := (((Below.refl _ w).alloc (Nat.le_refl _) _).alloc (by simp) _).trans (hbel.mono (by simp; omega))
         have HBLK : Hid (Blk w1 w.heap.size 29 _) := Blk.below (((Blk.new w _ [_, _, _, _, _])).alloc _) hbel (by simp; omega)
         clear hbel))
    | (go_at_call 37
       go_must (
         (refine (takeBig_int _ B 2 _ 2 rfl A l HR.out HL.out (by omega) hkl hc hm).mono ?_)
         rintro e w2 ⟨A', c', n, rfl, hl', hc', hr', rfl⟩
         have HR2 := Lib.hid hr'
         rw [HU.out]
         clear hr')))
  refine bodyPost_ret (results_cell2 rfl _ rfl (blk_set5 (HBLK.out.drewN n) _ _ _ _ _) Try.underlying29 rfl (by kernel_rfl)) rfl ?_
  exact ⟨A', c', by rw [List.length_drop]; rfl, hl', by omega, reads_set5 (HR2.out.drewN n) _ hB _ _ _ _ _, below_set5 (below_drewN HBEL.out n) _ (Nat.le_refl _) _ _ _ _ _⟩

set_option maxHeartbeats 4000000 in
set_option maxRecDepth 100000 in
theorem coded209n (w : World) (B c : Nat) (A : Option Addr) (l : List Int) (h : Reads w B 1 A l.length (bs l)) (hB : B ≤ w.heap.size) (hl : IsB l) (hkl : 2 ≤ l.length) (hc : l.length ≤ c) (hm : c ≤ maxLen) (u : Int) (hu : valBE (l.take 2) = u) (h0 : 32768 ≤ u) (h1 : u < 65536) :
    Calls Try.prog 25 #[.int .i64 209, .slice A l.length c, .int .i64 2] w (Coded w B (pk 2 (sx u 65536) ⟨#[]⟩ 0) (l.drop 2)) := by
  have H := Lib.hid h
  have HL := Lib.hid hl
  have HU := Lib.hid hu
  clear hu
  have hsh : wrap64 (u * 281474976710656) / 281474976710656 = u - 65536 := sh_neg u 281474976710656 65536 (by omega) (by omega) (by omega) (by omega)
  have hsw : IntKind.u64.wrap (u - 65536) = sx u 65536 := sx_wrap u 65536 (by omega) h1 (by omega)
  clear h hl
  go_enter Try.func25, Try.ntmps25
  go_wp2_with (first
    | ((with_reducible refine gate_makeMap rfl ?_)
       go_must (
         (refine wpList_makeMap_i (w0 := _) rfl 71 rfl (Below.refl _ _) (Nat.le_refl _) ?_)
         intro w1 mb HM))
    | ((with_reducible refine gate_insert rfl ?_)
       go_must (
         (have HM0 := HM)
         clear HM
         refine wpList_insert_i rfl _ _ _ 71 rfl Try.underlying71 _ _ rfl rfl rfl HM0 (by simp only [List.length_cons, List.length_nil]; omega) (by omega) (by omega) (by omega) (by omega) ?_
         intro w1 HM
         clear HM0))
    | ((with_reducible refine gate_lookup rfl ?_)
       go_must (
         (have HM0 := HM)
         clear HM
         refine wpList_lookup_i rfl _ _ 71 rfl Try.underlying71 _ rfl rfl HM0 (by omega) (by omega) 2 rfl ?_
         obtain ⟨-, hbel, -, hsz⟩ := HM0
         have hbc := bcell hbel
         obtain ⟨hbc1, hbc2⟩ := hbc
         have HR : Hid (Reads w1 B 1 A l.length (bs l)) := Reads.below ((H.out.alloc hB _).alloc (by simp; omega) _) (hbel.mono (by simp; omega))
         have HBEL : Hid (Below w.heap.size w w1) := (((Below.refl _ w).alloc (Nat.le_refl _) _).alloc (by simp) _).trans (hbel.mono (by simp; omega))
         have HBLK : Hid (Blk w1 w.heap.size 29 _) := Blk.below (((Blk.new w _ [_, _, _, _, _])).alloc _) hbel (by simp; omega)
         clear hbel))
    | (go_at_call 37
       go_must (
         (refine (takeBig_int _ B 2 _ 2 rfl A l HR.out HL.out (by omega) hkl hc hm).mono ?_)
         rintro e w2 ⟨A', c', n, rfl, hl', hc', hr', rfl⟩
         have HR2 := Lib.hid hr'
         rw [HU.out]
         clear hr')))
  refine bodyPost_ret (results_cell2 rfl _ rfl (blk_set5 (HBLK.out.drewN n) _ _ _ _ _) Try.underlying29 rfl (by kernel_rfl)) rfl ?_
  exact ⟨A', c', by rw [List.length_drop]; rfl, hl', by omega, reads_set5 (HR2.out.drewN n) _ hB _ _ _ _ _, below_set5 (below_drewN HBEL.out n) _ (Nat.le_refl _) _ _ _ _ _⟩

set_option maxHeartbeats 4000000 in
set_option maxRecDepth 100000 in
theorem coded210p (w : World) (B c : Nat) (A : Option Addr) (l : List Int) (h : Reads w B 1 A l.length (bs l)) (hB : B ≤ w.heap.size) (hl : IsB l) (hkl : 4 ≤ l.length) (hc : l.length ≤ c) (hm : c ≤ maxLen) (u : Int) (hu : valBE (l.take 4) = u) (h0 : 0 ≤ u) (h1 : u < 2147483648) :
    Calls Try.prog 25 #[.int .i64 210, .slice A l.length c, .int .i64 2] w (Coded w B (pk 3 u ⟨#[]⟩ 0) (l.drop 4)) := by
  have H := Lib.hid h
  have HL := Lib.hid hl
  have HU := Lib.hid hu
  clear hu
  have hsh : wrap64 (u * 4294967296) / 4294967296 = u := sh_pos u 4294967296 (by omega) h0 (by omega)
  clear h hl
  go_enter Try.func25, Try.ntmps25
  go_wp2_with (first
    | ((with_reducible refine gate_makeMap rfl ?_)
       go_must (
         (refine wpList_makeMap_i (w0 := _) rfl 71 rfl (Below.refl _ _) (Nat.le_refl _) ?_)
         intro w1 mb HM))
    | ((with_reducible refine gate_insert rfl ?_)
       go_must (
         (have HM0 := HM)
         clear HM
         refine wpList_insert_i rfl _ _ _ 71 rfl Try.underlying71 _ _ rfl rfl rfl HM0 (by simp only [List.length_cons, List.length_nil]; omega) (by omega) (by omega) (by omega) (by omega) ?_
         intro w1 HM
         clear HM0))
    | ((with_reducible refine gate_lookup rfl ?_)
       go_must (
         (have HM0 := HM)
         clear HM
         refine wpList_lookup_i rfl _ _ 71 rfl Try.underlying71 _ rfl rfl HM0 (by omega) (by omega) 4 rfl ?_
         obtain ⟨-, hbel, -, hsz⟩ := HM0
         have hbc := bcell hbel
         obtain ⟨hbc1, hbc2⟩ := hbc
         have HR : Hid (Reads w1 B 1 A l.length (bs l)) := Reads.below ((H.out.alloc hB _).alloc (by simp; omega) _) (hbel.mono (by simp; omega))
         have HBEL : Hid (Below w.heap.size w w1) := (((Below.refl _ w).alloc (Nat.le_refl _) _).alloc (by simp) _).trans (hbel.mono (by simp; omega))
         have HBLK : Hid (Blk w1 w.heap.size 29 _) := Blk.below (((Blk.new w _ [_, _, _, _, _])).alloc _) hbel (by simp; omega)
         clear hbel))
    | (go_at_call 37
       go_must (
         (refine (takeBig_int _ B 4 _ 4 rfl A l HR.out HL.out (by omega) hkl hc hm).mono ?_)
         rintro e w2 ⟨A', c', n, rfl, hl', hc', hr', rfl⟩
         have HR2 := Lib.hid hr'
         rw [HU.out]
         clear hr')))
  refine bodyPost_ret (results_cell2 rfl _ rfl (blk_set5 (HBLK.out.drewN n) _ _ _ _ _) Try.underlying29 rfl (by kernel_rfl)) rfl ?_
  exact ⟨A', c', by rw [List.length_drop]; rfl, hl', by omega, reads_set5 (HR2.out.drewN n) _ hB _ _ _ _ _, below_set5 (below_drewN HBEL.out n) _ (Nat.le_refl _) _ _ _ _ _⟩

set_option maxHeartbeats 4000000 in
set_option maxRecDepth 100000 in
theorem coded210n (w : World) (B c : Nat) (A : Option Addr) (l : List Int) (h : Reads w B 1 A l.length (bs l)) (hB : B ≤ w.heap.size) (hl : IsB l) (hkl : 4 ≤ l.length) (hc : l.length ≤ c) (hm : c ≤ maxLen) (u : Int) (hu : valBE (l.take 4) = u) (h0 : 2147483648 ≤ u) (h1 : u < 4294967296) :
    Calls Try.prog 25 #[.int .i64 210, .slice A l.length c, .int .i64 2] w (Coded w B (pk 2 (sx u 4294967296) ⟨#[]⟩ 0) (l.drop 4)) := by
  have H := Lib.hid h
  have HL := Lib.hid hl
  have HU := Lib.hid hu
  clear hu
  have hsh : wrap64 (u * 4294967296) / 4294967296 = u - 4294967296 := sh_neg u 4294967296 4294967296 (by omega) (by omega) (by omega) (by omega)
  have hsw : IntKind.u64.wrap (u - 4294967296) = sx u 4294967296 := sx_wrap u 4294967296 (by omega) h1 (by omega)
  clear h hl
  go_enter Try.func25, Try.ntmps25
  go_wp2_with (first
    | ((with_reducible refine gate_makeMap rfl ?_)
       go_must (
         (refine wpList_makeMap_i (w0 := _) rfl 71 rfl (Below.refl _ _) (Nat.le_refl _) ?_)
         intro w1 mb HM))
    | ((with_reducible refine gate_insert rfl ?_)
       go_must (
         (have HM0 := HM)
         clear HM
         refine wpList_insert_i rfl _ _ _ 71 rfl Try.underlying71 _ _ rfl rfl rfl HM0 (by simp only [List.length_cons, List.length_nil]; omega) (by omega) (by omega) (by omega) (by omega) ?_
         intro w1 HM
         clear HM0))
    | ((with_reducible refine gate_lookup rfl ?_)
       go_must (
         (have HM0 := HM)
         clear HM
         refine wpList_lookup_i rfl _ _ 71 rfl Try.underlying71 _ rfl rfl HM0 (by omega) (by omega) 4 rfl ?_
         obtain ⟨-, hbel, -, hsz⟩ := HM0
         have hbc := bcell hbel
         obtain ⟨hbc1, hbc2⟩ := hbc
         have HR : Hid (Reads w1 B 1 A l.length (bs l)) := Reads.below ((H.out.alloc hB _).alloc (by simp; omega) _) (hbel.mono (by simp; omega))
         have HBEL : Hid (Below w.heap.size w w1) := (((Below.refl _ w).alloc (Nat.le_refl _) _).alloc (by simp) _).trans (hbel.mono (by simp; omega))
         have HBLK : Hid (Blk w1 w.heap.size 29 _) := Blk.below (((Blk.new w _ [_, _, _, _, _])).alloc _) hbel (by simp; omega)
         clear hbel))
    | (go_at_call 37
       go_must (
         (refine (takeBig_int _ B 4 _ 4 rfl A l HR.out HL.out (by omega) hkl hc hm).mono ?_)
         rintro e w2 ⟨A', c', n, rfl, hl', hc', hr', rfl⟩
         have HR2 := Lib.hid hr'
         rw [HU.out]
         clear hr')))
  refine bodyPost_ret (results_cell2 rfl _ rfl (blk_set5 (HBLK.out.drewN n) _ _ _ _ _) Try.underlying29 rfl (by kernel_rfl)) rfl ?_
  exact ⟨A', c', by rw [List.length_drop]; rfl, hl', by omega, reads_set5 (HR2.out.drewN n) _ hB _ _ _ _ _, below_set5 (below_drewN HBEL.out n) _ (Nat.le_refl _) _ _ _ _ _⟩

set_option maxHeartbeats 4000000 in
set_option maxRecDepth 100000 in
theorem coded211p (w : World) (B c : Nat) (A : Option Addr) (l : List Int) (h : Reads w B 1 A l.length (bs l)) (hB : B ≤ w.heap.size) (hl : IsB l) (hkl : 8 ≤ l.length) (hc : l.length ≤ c) (hm : c ≤ maxLen) (u : Int) (hu : valBE (l.take 8) = u) (h0 : 0 ≤ u) (h1 : u < 9223372036854775808) :
    Calls Try.prog 25 #[.int .i64 211, .slice A l.length c, .int .i64 2] w (Coded w B (pk 3 u ⟨#[]⟩ 0) (l.drop 8)) := by
  have H := Lib.hid h
  have HL := Lib.hid hl
  have HU := Lib.hid hu
  clear hu
  have hsh : wrap64 u = u := wrap_same u h0 h1
  clear h hl
  go_enter Try.func25, Try.ntmps25
  go_wp2_with (first
    | ((with_reducible refine gate_makeMap rfl ?_)
       go_must (
         (refine wpList_makeMap_i (w0 := _) rfl 71 rfl (Below.refl _ _) (Nat.le_refl _) ?_)
         intro w1 mb HM))
    | ((with_reducible refine gate_insert rfl ?_)
       go_must (
         (have HM0 := HM)
         clear HM
         refine wpList_insert_i rfl _ _ _ 71 rfl Try.underlying71 _ _ rfl rfl rfl HM0 (by simp only [List.length_cons, List.length_nil]; omega) (by omega) (by omega) (by omega) (by omega) ?_
         intro w1 HM
         clear HM0))
    | ((with_reducible refine gate_lookup rfl ?_)
       go_must (
         (have HM0 := HM)
         clear HM
         refine wpList_lookup_i rfl _ _ 71 rfl Try.underlying71 _ rfl rfl HM0 (by omega) (by omega) 8 rfl ?_
         obtain ⟨-, hbel, -, hsz⟩ := HM0
         have hbc := bcell hbel
         obtain ⟨hbc1, hbc2⟩ := hbc
         have HR : Hid (Reads w1 B 1 A l.length (bs l)) := Reads.below ((H.out.alloc hB _).alloc (by simp; omega) _) (hbel.mono (by simp; omega))
         have HBEL : Hid (Below w.heap.size w w1) := (((Below.refl _ w).alloc (Nat.le_refl _) _).alloc (by simp) _).trans (hbel.mono (by simp; omega))
         have HBLK : Hid (Blk w1 w.heap.size 29 _) := Blk.below (((Blk.new w _ [_, _, _, _, _])).alloc _) hbel (by simp; omega)
         clear hbel))
    | (go_at_call 37
       go_must (
         (refine (takeBig_int _ B 8 _ 8 rfl A l HR.out HL.out (by omega) hkl hc hm).mono ?_)
         rintro e w2 ⟨A', c', n, rfl, hl', hc', hr', rfl⟩
         have HR2 := Lib.hid hr'
         rw [HU.out]
         clear hr')))
  refine bodyPost_ret (results_cell2 rfl _ rfl (blk_set5 (HBLK.out.drewN n) _ _ _ _ _) Try.underlying29 rfl (by kernel_rfl)) rfl ?_
  exact ⟨A', c', by rw [List.length_drop]; rfl, hl', by omega, reads_set5 (HR2.out.drewN n) _ hB _ _ _ _ _, below_set5 (below_drewN HBEL.out n) _ (Nat.le_refl _) _ _ _ _ _⟩

set_option maxHeartbeats 4000000 in
set_option maxRecDepth 100000 in
theorem coded211n (w : World) (B c : Nat) (A : Option Addr) (l : List Int) (h : Reads w B 1 A l.length (bs l)) (hB : B ≤ w.heap.size) (hl : IsB l) (hkl : 8 ≤ l.length) (hc : l.length ≤ c) (hm : c ≤ maxLen) (u : Int) (hu : valBE (l.take 8) = u) (h0 : 9223372036854775808 ≤ u) (h1 : u < 18446744073709551616) :
    Calls Try.prog 25 #[.int .i64 211, .slice A l.length c, .int .i64 2] w (Coded w B (pk 2 u ⟨#[]⟩ 0) (l.drop 8)) := by
  have H := Lib.hid h
  have HL := Lib.hid hl
  have HU := Lib.hid hu
  clear hu
  have hlt : wrap64 u < 0 := wrap_low u h0 h1
  have hww : IntKind.u64.wrap (wrap64 u) = u := wrap_back u h0 h1
  clear h hl
  go_enter Try.func25, Try.ntmps25
  go_wp2_with (first
    | ((with_reducible refine gate_makeMap rfl ?_)
       go_must (
         (refine wpList_makeMap_i (w0 := _) rfl 71 rfl (Below.refl _ _) (Nat.le_refl _) ?_)
         intro w1 mb HM))
    | ((with_reducible refine gate_insert rfl ?_)
       go_must (
         (have HM0 := HM)
         clear HM
         refine wpList_insert_i rfl _ _ _ 71 rfl Try.underlying71 _ _ rfl rfl rfl HM0 (by simp only [List.length_cons, List.length_nil]; omega) (by omega) (by omega) (by omega) (by omega) ?_
         intro w1 HM
         clear HM0))
    | ((with_reducible refine gate_lookup rfl ?_)
       go_must (
         (have HM0 := HM)
         clear HM
         refine wpList_lookup_i rfl _ _ 71 rfl Try.underlying71 _ rfl rfl HM0 (by omega) (by omega) 8 rfl ?_
         obtain ⟨-, hbel, -, hsz⟩ := HM0
         have hbc := bcell hbel
         obtain ⟨hbc1, hbc2⟩ := hbc
         have HR : Hid (Reads w1 B 1 A l.length (bs l)) := Reads.below ((H.out.alloc hB _).alloc (by simp; omega) _) (hbel.mono (by simp; omega))
         have HBEL : Hid (Below w.heap.size w w1) := (((Below.refl _ w).alloc (Nat.le_refl _) _).alloc (by simp) _).trans (hbel.mono (by simp; omega))
         have HBLK : Hid (Blk w1 w.heap.size 29 _) := Blk.below (((Blk.new w _ [_, _, _, _, _])).alloc _) hbel (by simp; omega)
         clear hbel))
    | (go_at_call 37
       go_must (
         (refine (takeBig_int _ B 8 _ 8 rfl A l HR.out HL.out (by omega) hkl hc hm).mono ?_)
         rintro e w2 ⟨A', c', n, rfl, hl', hc', hr', rfl⟩
         have HR2 := Lib.hid hr'
         rw [HU.out]
         clear hr')))
  refine bodyPost_ret (results_cell2 rfl _ rfl (blk_set5 (HBLK.out.drewN n) _ _ _ _ _) Try.underlying29 rfl (by kernel_rfl)) rfl ?_
  exact ⟨A', c', by rw [List.length_drop]; rfl, hl', by omega, reads_set5 (HR2.out.drewN n) _ hB _ _ _ _ _, below_set5 (below_drewN HBEL.out n) _ (Nat.le_refl _) _ _ _ _ _⟩

end Go.Proofs.Ytfhaddnacdjpoaa
