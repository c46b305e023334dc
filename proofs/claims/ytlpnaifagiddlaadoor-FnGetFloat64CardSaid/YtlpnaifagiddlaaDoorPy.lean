/- spec.FitsInt, laws.left. PRINTED by wip/genpy.py. -/
import Derived.Test.YtlpnaifagiddlaaDoorPw
import Derived.Laws.BytesArg
namespace Go.Proofs.YtlpnaifagiddlaaDoor
open Go.RowKit
set_option linter.unusedVariables false

theorem conv_reads {P : Program} {w : World} {B n c : Nat} {A : Option Addr} {l : List Int} (h : Reads w B 1 A n (bs l)) (src e dst : TypeId) (hs : P.underlying src = some (.slice e)) (he : P.underlying e = some (.int .u8)) (hd : P.underlying dst = some .string) :
    (convert src dst (.slice A n c)).run P w = .ok (.string (strOfNums l)) w := by
  have hn := h.bytes
  rcases A with _ | ad
  · have h0 : n = 0 := by
      rcases Nat.eq_zero_or_pos n with h0 | h0
      · exact h0
      · obtain ⟨_, h1, _⟩ := h.2 h0
        cases h1
    have : l = [] := List.eq_nil_of_length_eq_zero (by omega)
    subst this
    exact run_convert_bytes_nil w src e hs he n c dst hd
  · have hl : (loadCells ad n).run P w = .ok (l.map (Value.int .u8)).toArray w := by
      have := run_loadCells_list (P := P) w ad (l.map (Value.int .u8)) (fun j v hj => by
        have hj0 : 0 < n := by
          rcases Nat.eq_zero_or_pos n with h0 | h0
          · have : l = [] := List.eq_nil_of_length_eq_zero (by omega)
            subst this
            simp at hj
          · exact h0
        obtain ⟨ad', h1, _, h2⟩ := h.2 hj0
        injection h1 with h1
        subst h1
        exact h2 j v hj)
      simpa [hn] using this
    rw [run_convert_bytes_string w src dst e _ n c hs he hd, run_bytesToString w ad n c l hl, foldl_push_bytes]
    simp [strOfNums, ByteArray.empty, ByteArray.emptyWithCapacity]
    rfl


set_option maxHeartbeats 2000000 in
set_option maxRecDepth 100000 in
theorem Integer_2 (W : World) (k u x : Int) (s : ByteArray) (A : Option Addr) (n c : Nat)  : Calls Tryd.prog 12 #[.agg #[.int .i64 2, .int .u64 u, .string s, .int .i64 x, .slice A n c]] W fun e w' => e = .returned (.bool true) ∧ Below W.heap.size W w' := by
  have HB : (Below W.heap.size W (W.alloc (.cells #[.int .i64 2, .int .u64 u, .string s, .int .i64 x, .slice A n c] 25))) := (Below.refl _ W).alloc (Nat.le_refl _) _
  go_enter Tryd.func12, Tryd.ntmps12
  go_wp2
  go_ret
  exact ⟨rfl, HB⟩

set_option maxHeartbeats 2000000 in
set_option maxRecDepth 100000 in
theorem Integer_3 (W : World) (k u x : Int) (s : ByteArray) (A : Option Addr) (n c : Nat)  : Calls Tryd.prog 12 #[.agg #[.int .i64 3, .int .u64 u, .string s, .int .i64 x, .slice A n c]] W fun e w' => e = .returned (.bool true) ∧ Below W.heap.size W w' := by
  have HB : (Below W.heap.size W (W.alloc (.cells #[.int .i64 3, .int .u64 u, .string s, .int .i64 x, .slice A n c] 25))) := (Below.refl _ W).alloc (Nat.le_refl _) _
  go_enter Tryd.func12, Tryd.ntmps12
  go_wp2
  go_ret
  exact ⟨rfl, HB⟩

set_option maxHeartbeats 2000000 in
set_option maxRecDepth 100000 in
theorem Integer_no (W : World) (k u x : Int) (s : ByteArray) (A : Option Addr) (n c : Nat) (h2 : k ≠ 2) (h3 : k ≠ 3) : Calls Tryd.prog 12 #[.agg #[.int .i64 k, .int .u64 u, .string s, .int .i64 x, .slice A n c]] W fun e w' => e = .returned (.bool false) ∧ Below W.heap.size W w' := by
  have d2 : (k == 2) = false := by simp; omega
  have e2 : decide (k = 2) = false := decide_eq_false h2
  have d3 : (k == 3) = false := by simp; omega
  have e3 : decide (k = 3) = false := decide_eq_false h3
  have HB : (Below W.heap.size W (W.alloc (.cells #[.int .i64 k, .int .u64 u, .string s, .int .i64 x, .slice A n c] 25))) := (Below.refl _ W).alloc (Nat.le_refl _) _
  go_enter Tryd.func12, Tryd.ntmps12
  go_wp2
  go_ret
  exact ⟨rfl, HB⟩

set_option maxHeartbeats 2000000 in
set_option maxRecDepth 100000 in
theorem FI_no64 (W : World) (k u x : Int) (s : ByteArray) (A : Option Addr) (n c : Nat) (h2 : k ≠ 2) (h3 : k ≠ 3) : Calls Tryd.prog 19 #[.agg #[.int .i64 k, .int .u64 u, .string s, .int .i64 x, .slice A n c], .int .i64 64] W fun e w' => e = .returned (.bool false) ∧ Below W.heap.size W w' := by
  have d3 : (k == 3) = false := by simp; omega
  have e3 : decide (k = 3) = false := decide_eq_false h3
  have HB : Hid (Below W.heap.size W (W.alloc (.cells #[.int .i64 k, .int .u64 u, .string s, .int .i64 x, .slice A n c] 25))) := (Below.refl _ W).alloc (Nat.le_refl _) _
  have HB0 := Lib.hid HB
  clear HB
  go_enter Tryd.func19, Tryd.ntmps19
  go_wp2_with (first
    | (go_at_call 12
       go_must (
         (refine (Integer_no _ k u x s A n c h2 h3).mono ?_)
         rintro e w1 ⟨rfl, hb1⟩
         have HB1 : Hid (Below W.heap.size W w1) := HB0.out.trans (hb1.mono HB0.out.size)
         clear hb1)))
  go_ret
  first
    | exact ⟨rfl, HB1.out⟩
    | exact ⟨rfl, HB0.out⟩
    | (refine ⟨?_, HB1.out⟩
       show Ending.returned (Value.bool (_ == _)) = _
       congr 2
       simp only [beq_iff_eq, beq_eq_false_iff_ne]
       unfold wrap64
       omega)

set_option maxHeartbeats 2000000 in
set_option maxRecDepth 100000 in
theorem FI_big64 (W : World) (k u x : Int) (s : ByteArray) (A : Option Addr) (n c : Nat) (h0 : 9223372036854775808 ≤ u) (h1 : u < 18446744073709551616) : Calls Tryd.prog 19 #[.agg #[.int .i64 3, .int .u64 u, .string s, .int .i64 x, .slice A n c], .int .i64 64] W fun e w' => e = .returned (.bool false) ∧ Below W.heap.size W w' := by
  have hw : IntKind.i64.wrap u = u - 18446744073709551616 := by simp [IntKind.wrap, IntKind.bits, IntKind.signed]; omega
  have hd : decide (u - 18446744073709551616 < 0) = true := decide_eq_true (by omega)
  have HB : Hid (Below W.heap.size W (W.alloc (.cells #[.int .i64 3, .int .u64 u, .string s, .int .i64 x, .slice A n c] 25))) := (Below.refl _ W).alloc (Nat.le_refl _) _
  have HB0 := Lib.hid HB
  clear HB
  go_enter Tryd.func19, Tryd.ntmps19
  go_wp2
  go_ret
  first
    | exact ⟨rfl, HB1.out⟩
    | exact ⟨rfl, HB0.out⟩
    | (refine ⟨?_, HB1.out⟩
       show Ending.returned (Value.bool (_ == _)) = _
       congr 2
       simp only [beq_iff_eq, beq_eq_false_iff_ne]
       unfold wrap64
       omega)

set_option maxHeartbeats 2000000 in
set_option maxRecDepth 100000 in
theorem FI_yes2_64 (W : World) (k u x : Int) (s : ByteArray) (A : Option Addr) (n c : Nat) (n0 : Int) (hn : IntKind.i64.wrap u = n0) (hr0 : -9223372036854775808 ≤ n0) (hr1 : n0 ≤ 9223372036854775807) : Calls Tryd.prog 19 #[.agg #[.int .i64 2, .int .u64 u, .string s, .int .i64 x, .slice A n c], .int .i64 64] W fun e w' => e = .returned (.bool true) ∧ Below W.heap.size W w' := by
  have HB : Hid (Below W.heap.size W (W.alloc (.cells #[.int .i64 2, .int .u64 u, .string s, .int .i64 x, .slice A n c] 25))) := (Below.refl _ W).alloc (Nat.le_refl _) _
  have HB0 := Lib.hid HB
  clear HB
  go_enter Tryd.func19, Tryd.ntmps19
  go_wp2_with (first
    | (go_at_call 12
       go_must (
         (refine (Integer_2 _ 2 u x s A n c).mono ?_)
         rintro e w1 ⟨rfl, hb1⟩
         have HB1 : Hid (Below W.heap.size W w1) := HB0.out.trans (hb1.mono HB0.out.size)
         clear hb1)))
  go_ret
  first
    | exact ⟨rfl, HB1.out⟩
    | exact ⟨rfl, HB0.out⟩
    | (refine ⟨?_, HB1.out⟩
       show Ending.returned (Value.bool (_ == _)) = _
       congr 2
       simp only [beq_iff_eq, beq_eq_false_iff_ne]
       unfold wrap64
       omega)

set_option maxHeartbeats 2000000 in
set_option maxRecDepth 100000 in
theorem FI_yes3_64 (W : World) (k u x : Int) (s : ByteArray) (A : Option Addr) (n c : Nat) (n0 : Int) (hn : IntKind.i64.wrap u = n0) (hr0 : -9223372036854775808 ≤ n0) (hr1 : n0 ≤ 9223372036854775807) (h0 : 0 ≤ n0) : Calls Tryd.prog 19 #[.agg #[.int .i64 3, .int .u64 u, .string s, .int .i64 x, .slice A n c], .int .i64 64] W fun e w' => e = .returned (.bool true) ∧ Below W.heap.size W w' := by
  have hd : decide (n0 < 0) = false := decide_eq_false (by omega)
  have HB : Hid (Below W.heap.size W (W.alloc (.cells #[.int .i64 3, .int .u64 u, .string s, .int .i64 x, .slice A n c] 25))) := (Below.refl _ W).alloc (Nat.le_refl _) _
  have HB0 := Lib.hid HB
  clear HB
  go_enter Tryd.func19, Tryd.ntmps19
  go_wp2_with (first
    | (go_at_call 12
       go_must (
         (refine (Integer_3 _ 3 u x s A n c).mono ?_)
         rintro e w1 ⟨rfl, hb1⟩
         have HB1 : Hid (Below W.heap.size W w1) := HB0.out.trans (hb1.mono HB0.out.size)
         clear hb1)))
  go_ret
  first
    | exact ⟨rfl, HB1.out⟩
    | exact ⟨rfl, HB0.out⟩
    | (refine ⟨?_, HB1.out⟩
       show Ending.returned (Value.bool (_ == _)) = _
       congr 2
       simp only [beq_iff_eq, beq_eq_false_iff_ne]
       unfold wrap64
       omega)

set_option maxHeartbeats 2000000 in
set_option maxRecDepth 100000 in
theorem FI_no16 (W : World) (k u x : Int) (s : ByteArray) (A : Option Addr) (n c : Nat) (h2 : k ≠ 2) (h3 : k ≠ 3) : Calls Tryd.prog 19 #[.agg #[.int .i64 k, .int .u64 u, .string s, .int .i64 x, .slice A n c], .int .i64 16] W fun e w' => e = .returned (.bool false) ∧ Below W.heap.size W w' := by
  have d3 : (k == 3) = false := by simp; omega
  have e3 : decide (k = 3) = false := decide_eq_false h3
  have HB : Hid (Below W.heap.size W (W.alloc (.cells #[.int .i64 k, .int .u64 u, .string s, .int .i64 x, .slice A n c] 25))) := (Below.refl _ W).alloc (Nat.le_refl _) _
  have HB0 := Lib.hid HB
  clear HB
  go_enter Tryd.func19, Tryd.ntmps19
  go_wp2_with (first
    | (go_at_call 12
       go_must (
         (refine (Integer_no _ k u x s A n c h2 h3).mono ?_)
         rintro e w1 ⟨rfl, hb1⟩
         have HB1 : Hid (Below W.heap.size W w1) := HB0.out.trans (hb1.mono HB0.out.size)
         clear hb1)))
  go_ret
  first
    | exact ⟨rfl, HB1.out⟩
    | exact ⟨rfl, HB0.out⟩
    | (refine ⟨?_, HB1.out⟩
       show Ending.returned (Value.bool (_ == _)) = _
       congr 2
       simp only [beq_iff_eq, beq_eq_false_iff_ne]
       unfold wrap64
       omega)

set_option maxHeartbeats 2000000 in
set_option maxRecDepth 100000 in
theorem FI_big16 (W : World) (k u x : Int) (s : ByteArray) (A : Option Addr) (n c : Nat) (h0 : 9223372036854775808 ≤ u) (h1 : u < 18446744073709551616) : Calls Tryd.prog 19 #[.agg #[.int .i64 3, .int .u64 u, .string s, .int .i64 x, .slice A n c], .int .i64 16] W fun e w' => e = .returned (.bool false) ∧ Below W.heap.size W w' := by
  have hw : IntKind.i64.wrap u = u - 18446744073709551616 := by simp [IntKind.wrap, IntKind.bits, IntKind.signed]; omega
  have hd : decide (u - 18446744073709551616 < 0) = true := decide_eq_true (by omega)
  have HB : Hid (Below W.heap.size W (W.alloc (.cells #[.int .i64 3, .int .u64 u, .string s, .int .i64 x, .slice A n c] 25))) := (Below.refl _ W).alloc (Nat.le_refl _) _
  have HB0 := Lib.hid HB
  clear HB
  go_enter Tryd.func19, Tryd.ntmps19
  go_wp2
  go_ret
  first
    | exact ⟨rfl, HB1.out⟩
    | exact ⟨rfl, HB0.out⟩
    | (refine ⟨?_, HB1.out⟩
       show Ending.returned (Value.bool (_ == _)) = _
       congr 2
       simp only [beq_iff_eq, beq_eq_false_iff_ne]
       unfold wrap64
       omega)

set_option maxHeartbeats 2000000 in
set_option maxRecDepth 100000 in
theorem FI_yes2_16 (W : World) (k u x : Int) (s : ByteArray) (A : Option Addr) (n c : Nat) (n0 : Int) (hn : IntKind.i64.wrap u = n0) (hr0 : -9223372036854775808 ≤ n0) (hr1 : n0 ≤ 9223372036854775807) (h1 : -32768 ≤ n0) (h2 : n0 ≤ 32767) : Calls Tryd.prog 19 #[.agg #[.int .i64 2, .int .u64 u, .string s, .int .i64 x, .slice A n c], .int .i64 16] W fun e w' => e = .returned (.bool true) ∧ Below W.heap.size W w' := by
  have HB : Hid (Below W.heap.size W (W.alloc (.cells #[.int .i64 2, .int .u64 u, .string s, .int .i64 x, .slice A n c] 25))) := (Below.refl _ W).alloc (Nat.le_refl _) _
  have HB0 := Lib.hid HB
  clear HB
  go_enter Tryd.func19, Tryd.ntmps19
  go_wp2_with (first
    | (go_at_call 12
       go_must (
         (refine (Integer_2 _ 2 u x s A n c).mono ?_)
         rintro e w1 ⟨rfl, hb1⟩
         have HB1 : Hid (Below W.heap.size W w1) := HB0.out.trans (hb1.mono HB0.out.size)
         clear hb1)))
  go_ret
  first
    | exact ⟨rfl, HB1.out⟩
    | exact ⟨rfl, HB0.out⟩
    | (refine ⟨?_, HB1.out⟩
       show Ending.returned (Value.bool (_ == _)) = _
       congr 2
       simp only [beq_iff_eq, beq_eq_false_iff_ne]
       unfold wrap64
       omega)

set_option maxHeartbeats 2000000 in
set_option maxRecDepth 100000 in
theorem FI_out2_16 (W : World) (k u x : Int) (s : ByteArray) (A : Option Addr) (n c : Nat) (n0 : Int) (hn : IntKind.i64.wrap u = n0) (hr0 : -9223372036854775808 ≤ n0) (hr1 : n0 ≤ 9223372036854775807) (h1 : n0 < -32768 ∨ 32767 < n0) : Calls Tryd.prog 19 #[.agg #[.int .i64 2, .int .u64 u, .string s, .int .i64 x, .slice A n c], .int .i64 16] W fun e w' => e = .returned (.bool false) ∧ Below W.heap.size W w' := by
  have HB : Hid (Below W.heap.size W (W.alloc (.cells #[.int .i64 2, .int .u64 u, .string s, .int .i64 x, .slice A n c] 25))) := (Below.refl _ W).alloc (Nat.le_refl _) _
  have HB0 := Lib.hid HB
  clear HB
  go_enter Tryd.func19, Tryd.ntmps19
  go_wp2_with (first
    | (go_at_call 12
       go_must (
         (refine (Integer_2 _ 2 u x s A n c).mono ?_)
         rintro e w1 ⟨rfl, hb1⟩
         have HB1 : Hid (Below W.heap.size W w1) := HB0.out.trans (hb1.mono HB0.out.size)
         clear hb1)))
  go_ret
  first
    | exact ⟨rfl, HB1.out⟩
    | exact ⟨rfl, HB0.out⟩
    | (refine ⟨?_, HB1.out⟩
       show Ending.returned (Value.bool (_ == _)) = _
       congr 2
       simp only [beq_iff_eq, beq_eq_false_iff_ne]
       unfold wrap64
       omega)

set_option maxHeartbeats 2000000 in
set_option maxRecDepth 100000 in
theorem FI_yes3_16 (W : World) (k u x : Int) (s : ByteArray) (A : Option Addr) (n c : Nat) (n0 : Int) (hn : IntKind.i64.wrap u = n0) (hr0 : -9223372036854775808 ≤ n0) (hr1 : n0 ≤ 9223372036854775807) (h0 : 0 ≤ n0) (h1 : -32768 ≤ n0) (h2 : n0 ≤ 32767) : Calls Tryd.prog 19 #[.agg #[.int .i64 3, .int .u64 u, .string s, .int .i64 x, .slice A n c], .int .i64 16] W fun e w' => e = .returned (.bool true) ∧ Below W.heap.size W w' := by
  have hd : decide (n0 < 0) = false := decide_eq_false (by omega)
  have HB : Hid (Below W.heap.size W (W.alloc (.cells #[.int .i64 3, .int .u64 u, .string s, .int .i64 x, .slice A n c] 25))) := (Below.refl _ W).alloc (Nat.le_refl _) _
  have HB0 := Lib.hid HB
  clear HB
  go_enter Tryd.func19, Tryd.ntmps19
  go_wp2_with (first
    | (go_at_call 12
       go_must (
         (refine (Integer_3 _ 3 u x s A n c).mono ?_)
         rintro e w1 ⟨rfl, hb1⟩
         have HB1 : Hid (Below W.heap.size W w1) := HB0.out.trans (hb1.mono HB0.out.size)
         clear hb1)))
  go_ret
  first
    | exact ⟨rfl, HB1.out⟩
    | exact ⟨rfl, HB0.out⟩
    | (refine ⟨?_, HB1.out⟩
       show Ending.returned (Value.bool (_ == _)) = _
       congr 2
       simp only [beq_iff_eq, beq_eq_false_iff_ne]
       unfold wrap64
       omega)

set_option maxHeartbeats 2000000 in
set_option maxRecDepth 100000 in
theorem FI_out3_16 (W : World) (k u x : Int) (s : ByteArray) (A : Option Addr) (n c : Nat) (n0 : Int) (hn : IntKind.i64.wrap u = n0) (hr0 : -9223372036854775808 ≤ n0) (hr1 : n0 ≤ 9223372036854775807) (h0 : 0 ≤ n0) (h1 : n0 < -32768 ∨ 32767 < n0) : Calls Tryd.prog 19 #[.agg #[.int .i64 3, .int .u64 u, .string s, .int .i64 x, .slice A n c], .int .i64 16] W fun e w' => e = .returned (.bool false) ∧ Below W.heap.size W w' := by
  have hd : decide (n0 < 0) = false := decide_eq_false (by omega)
  have HB : Hid (Below W.heap.size W (W.alloc (.cells #[.int .i64 3, .int .u64 u, .string s, .int .i64 x, .slice A n c] 25))) := (Below.refl _ W).alloc (Nat.le_refl _) _
  have HB0 := Lib.hid HB
  clear HB
  go_enter Tryd.func19, Tryd.ntmps19
  go_wp2_with (first
    | (go_at_call 12
       go_must (
         (refine (Integer_3 _ 3 u x s A n c).mono ?_)
         rintro e w1 ⟨rfl, hb1⟩
         have HB1 : Hid (Below W.heap.size W w1) := HB0.out.trans (hb1.mono HB0.out.size)
         clear hb1)))
  go_ret
  first
    | exact ⟨rfl, HB1.out⟩
    | exact ⟨rfl, HB0.out⟩
    | (refine ⟨?_, HB1.out⟩
       show Ending.returned (Value.bool (_ == _)) = _
       congr 2
       simp only [beq_iff_eq, beq_eq_false_iff_ne]
       unfold wrap64
       omega)

set_option maxHeartbeats 2000000 in
set_option maxRecDepth 100000 in
theorem left_calls (W : World) (A A2 : Option Addr) (c c2 : Nat) (l : List Int) (h : Reads W W.heap.size 1 A l.length (bs l)) (h2 : Reads W W.heap.size 1 A2 l.length (bs l)) : Calls Tryd.prog 16 #[.slice A l.length c, .slice A2 l.length c2] W fun e w' => e = .returned (.bool true) ∧ Below W.heap.size W w' := by
  have hcv : ∀ w c, w.heap = W.heap → (convert 26 9 (.slice A l.length c)).run Tryd.prog w = .ok (.string (strOfNums l)) w := fun w c hw => conv_reads (h.keep fun p _ => by simp [World.cell?, hw]) _ _ _ Tryd.underlying26 Tryd.underlying5 Tryd.underlying9
  have hc1 := hcv W c rfl
  have hc2 := fun n => hcv (W.drewN n) c rfl
  have hk : (convert 26 9 (.slice A2 l.length c2)).run Tryd.prog W = .ok (.string (strOfNums l)) W := conv_reads h2 _ _ _ Tryd.underlying26 Tryd.underlying5 Tryd.underlying9
  clear hcv
  go_enter Tryd.func16, Tryd.ntmps16
  go_wp2
  go_ret
  exact ⟨by simp, Below.refl _ _⟩
end Go.Proofs.YtlpnaifagiddlaaDoor
