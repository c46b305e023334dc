/- ReadDurationBytes, ReadInt16Bytes, impl.GetDuration, GetInt16. PRINTED by wip/genpw.py. -/
import Derived.Test.YtlpnaifagiddlaaDoorPv
namespace Go.Proofs.YtlpnaifagiddlaaDoor
open Go.RowKit
set_option linter.unusedVariables false

/-- No number is read. -/
def RX (kd : IntKind) (w : World) (e : Ending) (w' : World) : Prop :=
  (∃ A m c t v, e = .returned (.tuple #[.int kd 0, .slice A m c, .iface t v])) ∧ Below w.heap.size w w'
theorem RE.toX {kd : IntKind} {w w' : World} {e : Ending} (h : RE kd w e w') : RX kd w e w' := by
  obtain ⟨⟨t, v, rfl⟩, hb⟩ := h
  exact ⟨⟨_, _, _, t, v, rfl⟩, hb⟩
/-- A number is got; what stands behind it is handed on. -/
def GB (kd : IntKind) (n : Int) (tot : List Int) (w : World) (e : Ending) (w' : World) : Prop :=
  ∃ A c, e = .returned (.tuple #[.int kd n, .slice A tot.length c, .bool true]) ∧ Reads w' w'.heap.size 1 A tot.length (bs tot) ∧ Below w.heap.size w w'
def GE (kd : IntKind) (w : World) (e : Ending) (w' : World) : Prop :=
  e = .returned (.tuple #[.int kd 0, .slice none 0 0, .bool false]) ∧ Below w.heap.size w w'

set_option maxHeartbeats 2000000 in
set_option maxRecDepth 100000 in
theorem RD_ok (W : World) (m c : Nat) (A : Option Addr) (n : Int) (tot : List Int) (B : Nat) (h : Calls Tryd.prog 52 #[.slice A m c] W (RB .i64 n tot B W)) :
    Calls Tryd.prog 34 #[.slice A m c] W (RB .i64 n tot B W) := by
  have H := Lib.hid h
  clear h
  go_enter Tryd.func34, Tryd.ntmps34
  go_wp2_with (first
    | (go_at_call 52
       go_must (
         (refine H.out.mono ?_)
         rintro e w1 ⟨A1, c1, rfl, hl1, hm1, hr1, hb1⟩
         have HR1 := Lib.hid hr1
         have HB1 := Lib.hid hb1
         clear hr1 hb1)))
  all_goals (
    ((try simp only [Exit.inBlock, Exit.then]); refine bodyPost_ret (results_tmp3Q rfl _ _ _) rfl ?_)
    exact ⟨A1, c1, rfl, hl1, hm1, HR1.out, HB1.out⟩)

set_option maxHeartbeats 2000000 in
set_option maxRecDepth 100000 in
theorem RD_no (W : World) (m c : Nat) (A : Option Addr) (h : Calls Tryd.prog 52 #[.slice A m c] W (RE .i64 W)) :
    Calls Tryd.prog 34 #[.slice A m c] W (RX .i64 W) := by
  have H := Lib.hid h
  clear h
  go_enter Tryd.func34, Tryd.ntmps34
  go_wp2_with (first
    | (go_at_call 52
       go_must (
         (refine H.out.mono ?_)
         rintro e w1 ⟨⟨t, v, rfl⟩, hb1⟩
         have HB1 := Lib.hid hb1
         clear hb1)))
  all_goals (
    ((try simp only [Exit.inBlock, Exit.then]); refine bodyPost_ret (results_tmp3Q rfl _ _ _) rfl ?_)
    exact ⟨⟨_, _, _, _, _, rfl⟩, HB1.out⟩)

set_option maxHeartbeats 2000000 in
set_option maxRecDepth 100000 in
theorem R16_ok (W : World) (m c : Nat) (A : Option Addr) (n : Int) (tot : List Int) (B : Nat) (h0 : -32768 ≤ n) (h1 : n ≤ 32767) (h : Calls Tryd.prog 52 #[.slice A m c] W (RB .i64 n tot B W)) :
    Calls Tryd.prog 35 #[.slice A m c] W (RB .i16 n tot B W) := by
  have d0 : decide (32767 < n) = false := decide_eq_false (by omega)
  have d1 : decide (n < -32768) = false := decide_eq_false (by omega)
  have H := Lib.hid h
  clear h
  go_enter Tryd.func35, Tryd.ntmps35
  go_wp2_with (first
    | (go_at_call 52
       go_must (
         (refine H.out.mono ?_)
         rintro e w1 ⟨A1, c1, rfl, hl1, hm1, hr1, hb1⟩
         have HR1 := Lib.hid hr1
         have HB1 := Lib.hid hb1
         clear hr1 hb1)))
  all_goals (
    ((try simp only [Exit.inBlock, Exit.then]); refine bodyPost_ret (results_tmp3Q rfl _ _ _) rfl ?_)
    exact ⟨A1, c1, rfl, hl1, hm1, HR1.out, HB1.out⟩)

set_option maxHeartbeats 2000000 in
set_option maxRecDepth 100000 in
theorem R16_no (W : World) (m c : Nat) (A : Option Addr) (h : Calls Tryd.prog 52 #[.slice A m c] W (RE .i64 W)) :
    Calls Tryd.prog 35 #[.slice A m c] W (RX .i16 W) := by
  have H := Lib.hid h
  clear h
  go_enter Tryd.func35, Tryd.ntmps35
  go_wp2_with (first
    | (go_at_call 52
       go_must (
         (refine H.out.mono ?_)
         rintro e w1 ⟨⟨t, v, rfl⟩, hb1⟩
         have HB1 := Lib.hid hb1
         clear hb1)))
  all_goals (
    ((try simp only [Exit.inBlock, Exit.then]); refine bodyPost_ret (results_tmp3Q rfl _ _ _) rfl ?_)
    exact ⟨⟨_, _, _, _, _, rfl⟩, HB1.out⟩)

set_option maxHeartbeats 2000000 in
set_option maxRecDepth 100000 in
theorem R16_big (W : World) (m c : Nat) (A : Option Addr) (n : Int) (tot : List Int) (B : Nat) (h0 : n < -32768 ∨ 32767 < n) (h : Calls Tryd.prog 52 #[.slice A m c] W (RB .i64 n tot B W)) :
    Calls Tryd.prog 35 #[.slice A m c] W (RX .i16 W) := by
  have H := Lib.hid h
  clear h
  go_enter Tryd.func35, Tryd.ntmps35
  go_wp2_with (first
    | (go_at_call 52
       go_must (
         (refine H.out.mono ?_)
         rintro e w1 ⟨A1, c1, rfl, hl1, hm1, hr1, hb1⟩
         have HR1 := Lib.hid hr1
         have HB1 := Lib.hid hb1
         clear hr1 hb1)))
  all_goals (
    ((try simp only [Exit.inBlock, Exit.then]); refine bodyPost_ret (results_tmp3Q rfl _ _ _) rfl ?_)
    first
      | exact ⟨⟨_, _, _, _, _, rfl⟩, HB1.out⟩
      | (exfalso; simp only [decide_eq_false_iff_not, decide_eq_true_eq] at *; omega))

set_option maxHeartbeats 2000000 in
set_option maxRecDepth 100000 in
theorem GD_ok (W : World) (m c : Nat) (A : Option Addr) (n : Int) (tot : List Int) (B : Nat) (hB : B ≤ W.heap.size) (ht : tot.length ≤ 100) (h : Calls Tryd.prog 34 #[.slice A m c] W (RB .i64 n tot B W)) :
    Calls Tryd.prog 18 #[.slice A m c] W (GB .i64 n tot W) := by
  have H := Lib.hid h
  clear h
  go_enter Tryd.func18, Tryd.ntmps18
  go_wp2_with (first
    | (go_at_call 34
       go_must (
         (refine H.out.mono ?_)
         rintro e w1 ⟨A1, c1, rfl, hl1, hm1, hr1, hb1⟩
         have HR1 := Lib.hid hr1
         have HB1 := Lib.hid hb1
         clear hr1 hb1))
    | (go_at_call 32
       go_must (
         (refine (copied_b _ A1 c1 tot (HR1.out.more (Nat.le_trans hB HB1.out.size)) (by omega)).mono ?_)
         rintro e w5 ⟨g5, cs5, rfl, hb5, hl5, hm5, ht5, hg5, hbel5⟩
         have hr5 : Reads w5 w5.heap.size 1 (some ⟨g5, 0, none⟩) tot.length (bs tot) := by
           have hr := (hb5.reads 0 tot.length (by omega)).more (show g5 + 1 ≤ w5.heap.size from hb5.lt)
           rw [List.drop_zero, ht5] at hr
           exact hr
         have HR5 := Lib.hid hr5
         have HB5 : Hid (Below W.heap.size W w5) := HB1.out.trans (hbel5.mono HB1.out.size)
         clear hb5 ht5 hr5 hbel5)))
  all_goals (
    ((try simp only [Exit.inBlock, Exit.then]); refine bodyPost_ret (results_tmp3Q rfl _ _ _) rfl ?_)
    exact ⟨_, _, rfl, HR5.out, HB5.out⟩)

set_option maxHeartbeats 2000000 in
set_option maxRecDepth 100000 in
theorem GD_no (W : World) (m c : Nat) (A : Option Addr) (h : Calls Tryd.prog 34 #[.slice A m c] W (RX .i64 W)) :
    Calls Tryd.prog 18 #[.slice A m c] W (GE .i64 W) := by
  have H := Lib.hid h
  clear h
  go_enter Tryd.func18, Tryd.ntmps18
  go_wp2_with (first
    | (go_at_call 34
       go_must (
         (refine H.out.mono ?_)
         rintro e w1 ⟨⟨A1, m1, c1, t, v, rfl⟩, hb1⟩
         have HB1 := Lib.hid hb1
         clear hb1)))
  all_goals (
    ((try simp only [Exit.inBlock, Exit.then]); refine bodyPost_ret (results_tmp3Q rfl _ _ _) rfl ?_)
    exact ⟨rfl, HB1.out⟩)

set_option maxHeartbeats 2000000 in
set_option maxRecDepth 100000 in
theorem G16_ok (W : World) (m c : Nat) (A : Option Addr) (n : Int) (tot : List Int) (B : Nat) (hB : B ≤ W.heap.size) (ht : tot.length ≤ 100) (h : Calls Tryd.prog 35 #[.slice A m c] W (RB .i16 n tot B W)) :
    Calls Tryd.prog 20 #[.slice A m c] W (GB .i16 n tot W) := by
  have H := Lib.hid h
  clear h
  go_enter Tryd.func20, Tryd.ntmps20
  go_wp2_with (first
    | (go_at_call 35
       go_must (
         (refine H.out.mono ?_)
         rintro e w1 ⟨A1, c1, rfl, hl1, hm1, hr1, hb1⟩
         have HR1 := Lib.hid hr1
         have HB1 := Lib.hid hb1
         clear hr1 hb1))
    | (go_at_call 32
       go_must (
         (refine (copied_b _ A1 c1 tot (HR1.out.more (Nat.le_trans hB HB1.out.size)) (by omega)).mono ?_)
         rintro e w5 ⟨g5, cs5, rfl, hb5, hl5, hm5, ht5, hg5, hbel5⟩
         have hr5 : Reads w5 w5.heap.size 1 (some ⟨g5, 0, none⟩) tot.length (bs tot) := by
           have hr := (hb5.reads 0 tot.length (by omega)).more (show g5 + 1 ≤ w5.heap.size from hb5.lt)
           rw [List.drop_zero, ht5] at hr
           exact hr
         have HR5 := Lib.hid hr5
         have HB5 : Hid (Below W.heap.size W w5) := HB1.out.trans (hbel5.mono HB1.out.size)
         clear hb5 ht5 hr5 hbel5)))
  all_goals (
    ((try simp only [Exit.inBlock, Exit.then]); refine bodyPost_ret (results_tmp3Q rfl _ _ _) rfl ?_)
    exact ⟨_, _, rfl, HR5.out, HB5.out⟩)

set_option maxHeartbeats 2000000 in
set_option maxRecDepth 100000 in
theorem G16_no (W : World) (m c : Nat) (A : Option Addr) (h : Calls Tryd.prog 35 #[.slice A m c] W (RX .i16 W)) :
    Calls Tryd.prog 20 #[.slice A m c] W (GE .i16 W) := by
  have H := Lib.hid h
  clear h
  go_enter Tryd.func20, Tryd.ntmps20
  go_wp2_with (first
    | (go_at_call 35
       go_must (
         (refine H.out.mono ?_)
         rintro e w1 ⟨⟨A1, m1, c1, t, v, rfl⟩, hb1⟩
         have HB1 := Lib.hid hb1
         clear hb1)))
  all_goals (
    ((try simp only [Exit.inBlock, Exit.then]); refine bodyPost_ret (results_tmp3Q rfl _ _ _) rfl ?_)
    exact ⟨rfl, HB1.out⟩)
end Go.Proofs.YtlpnaifagiddlaaDoor
