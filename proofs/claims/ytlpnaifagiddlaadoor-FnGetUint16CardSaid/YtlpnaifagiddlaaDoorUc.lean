/- spec.FitsUint; the walk of FnGetUint16. PRINTED by wip/genuc.py. -/
import Derived.Test.YtlpnaifagiddlaaDoorQa
import Derived.Test.YtlpnaifagiddlaaDoorUb
import Derived.Deep.RegionHeld3
namespace Go.Proofs.YtlpnaifagiddlaaDoor
open Go.RowKit
set_option linter.unusedVariables false

theorem gen_code {C : Code} {Q : Exit → Act → World → Prop} {a : Act} {w : World} (F : World → Prop) (h : F w) (k : ∀ W, F W → Code.wp Tryd.prog C Q a W) : Code.wp Tryd.prog C Q a w := k w h

set_option maxHeartbeats 16000000 in
set_option maxRecDepth 100000 in
theorem FU_no (W : World) (k u x : Int) (s : ByteArray) (A : Option Addr) (n c : Nat) (h2 : k ≠ 2) (h3 : k ≠ 3) : Calls Tryd.prog 22 #[.agg #[.int .i64 k, .int .u64 u, .string s, .int .i64 x, .slice A n c], .int .i64 16] W fun e w' => e = .returned (.bool false) ∧ Below W.heap.size W w' := by
  have d2 : (k == 2) = false := by simp; omega
  have e2 : decide (k = 2) = false := decide_eq_false h2
  go_enter Tryd.func22, Tryd.ntmps22
  go_wp2
  refine gen_code (fun W' => Blk W' W.heap.size 25 [.int .i64 k, .int .u64 u, .string s, .int .i64 x, .slice A n c] ∧ Below W.heap.size W W') ⟨Blk.new W 25 [_, _, _, _, _], (Below.refl _ W).alloc (Nat.le_refl _) _⟩ ?_
  rintro W5 ⟨hblk5, hbel5⟩
  have hk := fun W' (hW : Below W5.heap.size W5 W') => blk_cells5 (hblk5.below hW hblk5.lt)
  have HB5 := Lib.hid hbel5
  have kA : Below W5.heap.size W5 W5.drew := (Below.refl _ _).drew
  have k1 := hk _ kA
  clear hblk5 hbel5
  refine wp_region_held_drew (S := (fun W' => W'.cell? ⟨W.heap.size, 0, none⟩ = some (.int .i64 k) ∧ W'.cell? ⟨W.heap.size, 1, none⟩ = some (.int .u64 u) ∧ W'.cell? ⟨W.heap.size, 2, none⟩ = some (.string s) ∧ W'.cell? ⟨W.heap.size, 3, none⟩ = some (.int .i64 x) ∧ W'.cell? ⟨W.heap.size, 4, none⟩ = some (.slice A n c))) (by kernel_rfl) k1 (fun hHeld => ?_)
  refine wpAnyH_take (i := 0) (v := .agg #[.int .i64 k, .int .u64 u, .string s, .int .i64 x, .slice A n c]) rfl (by kernel_rfl) (by kernel_rfl) (by kernel_rfl) (fun _ _ _ h => h) (.inl ⟨by rfl, fun w hSw => by (try dsimp only at hSw); go_simp⟩) hHeld ?_
  try simp only [Act.put, List.setIfInBounds_toArray, List.set_cons_zero, List.set_cons_succ]
  refine wpAnyH_ready (rs := [1]) (by kernel_rfl) (by simp) ?_
  refine AllReadyH.cons rfl (fun K hK => ?_) AllReadyH.nil
  go_simp
  go_at_call 12
  refine (Integer_no W5.drew k u x s A n c h2 h3).mono ?_
  rintro e w1 ⟨rfl, hb1⟩
  have hS1 : Below W5.heap.size W5 w1 := kA.trans (hb1.mono kA.size)
  have hK1 := hk _ hS1
  clear hb1
  refine hK.out _ _ hK1 (fun hHeld => ?_)
  clear hK K
  try simp only [Act.put, List.setIfInBounds_toArray, List.set_cons_zero, List.set_cons_succ]
  refine wpAnyH_take (i := 2) (v := .bool false) rfl (by kernel_rfl) (by kernel_rfl) (by kernel_rfl) (fun _ _ _ h => h) (.inl ⟨by rfl, fun w hSw => by (try dsimp only at hSw); go_simp⟩) hHeld ?_
  change wpAnyH _ _ _ _ _ _ _ (Act.put _ (some 16) _) _
  try simp only [Act.put, List.setIfInBounds_toArray, List.set_cons_zero, List.set_cons_succ]
  refine wpAnyH_take (i := 3) (v := undef) rfl (by kernel_rfl) (by kernel_rfl) (by kernel_rfl) (fun _ _ _ h => h) (.inr ⟨by kernel_rfl, rfl⟩) hHeld ?_
  change wpAnyH _ _ _ _ _ _ _ (Act.put _ (some 17) _) _
  try simp only [Act.put, List.setIfInBounds_toArray, List.set_cons_zero, List.set_cons_succ]
  refine wpAnyH_take (i := 4) (v := undef) rfl (by kernel_rfl) (by kernel_rfl) (by kernel_rfl) (fun _ _ _ h => h) (.inr ⟨by kernel_rfl, rfl⟩) hHeld ?_
  change wpAnyH _ _ _ _ _ _ _ (Act.put _ (some 18) _) _
  try simp only [Act.put, List.setIfInBounds_toArray, List.set_cons_zero, List.set_cons_succ]
  refine wpAnyH_take (i := 5) (v := undef) rfl (by kernel_rfl) (by kernel_rfl) (by kernel_rfl) (fun _ _ _ h => h) (.inr ⟨by kernel_rfl, rfl⟩) hHeld ?_
  change wpAnyH _ _ _ _ _ _ _ (Act.put _ (some 19) _) _
  try simp only [Act.put, List.setIfInBounds_toArray, List.set_cons_zero, List.set_cons_succ]
  refine wpAnyH_take (i := 6) (v := undef) rfl (by kernel_rfl) (by kernel_rfl) (by kernel_rfl) (fun _ _ _ h => h) (.inr ⟨by kernel_rfl, rfl⟩) hHeld ?_
  change wpAnyH _ _ _ _ _ _ _ (Act.put _ (some 20) _) _
  try simp only [Act.put, List.setIfInBounds_toArray, List.set_cons_zero, List.set_cons_succ]
  refine wpAnyH_take (i := 7) (v := undef) rfl (by kernel_rfl) (by kernel_rfl) (by kernel_rfl) (fun _ _ _ h => h) (.inr ⟨by kernel_rfl, rfl⟩) hHeld ?_
  change wpAnyH _ _ _ _ _ _ _ (Act.put _ (some 21) _) _
  try simp only [Act.put, List.setIfInBounds_toArray, List.set_cons_zero, List.set_cons_succ]
  refine wpAnyH_take (i := 8) (v := undef) rfl (by kernel_rfl) (by kernel_rfl) (by kernel_rfl) (fun _ _ _ h => h) (.inr ⟨by kernel_rfl, rfl⟩) hHeld ?_
  change wpAnyH _ _ _ _ _ _ _ (Act.put _ (some 22) _) _
  try simp only [Act.put, List.setIfInBounds_toArray, List.set_cons_zero, List.set_cons_succ]
  refine wpAnyH_take (i := 9) (v := undef) rfl (by kernel_rfl) (by kernel_rfl) (by kernel_rfl) (fun _ _ _ h => h) (.inr ⟨by kernel_rfl, rfl⟩) hHeld ?_
  change wpAnyH _ _ _ _ _ _ _ (Act.put _ (some 23) _) _
  try simp only [Act.put, List.setIfInBounds_toArray, List.set_cons_zero, List.set_cons_succ]
  refine wpAnyH_take (i := 10) (v := undef) rfl (by kernel_rfl) (by kernel_rfl) (by kernel_rfl) (fun _ _ _ h => h) (.inr ⟨by kernel_rfl, rfl⟩) hHeld ?_
  change wpAnyH _ _ _ _ _ _ _ (Act.put _ (some 24) _) _
  try simp only [Act.put, List.setIfInBounds_toArray, List.set_cons_zero, List.set_cons_succ]
  refine wpAnyH_take (i := 11) (v := undef) rfl (by kernel_rfl) (by kernel_rfl) (by kernel_rfl) (fun _ _ _ h => h) (.inr ⟨by kernel_rfl, rfl⟩) hHeld ?_
  change wpAnyH _ _ _ _ _ _ _ (Act.put _ (some 25) _) _
  try simp only [Act.put, List.setIfInBounds_toArray, List.set_cons_zero, List.set_cons_succ]
  refine wpAnyH_take (i := 12) (v := undef) rfl (by kernel_rfl) (by kernel_rfl) (by kernel_rfl) (fun _ _ _ h => h) (.inr ⟨by kernel_rfl, rfl⟩) hHeld ?_
  change wpAnyH _ _ _ _ _ _ _ (Act.put _ (some 26) _) _
  try simp only [Act.put, List.setIfInBounds_toArray, List.set_cons_zero, List.set_cons_succ]
  refine wpAnyH_take (i := 13) (v := undef) rfl (by kernel_rfl) (by kernel_rfl) (by kernel_rfl) (fun _ _ _ h => h) (.inr ⟨by kernel_rfl, rfl⟩) hHeld ?_
  change wpAnyH _ _ _ _ _ _ _ (Act.put _ (some 27) _) _
  try simp only [Act.put, List.setIfInBounds_toArray, List.set_cons_zero, List.set_cons_succ]
  refine wpAnyH_take (i := 14) (v := .bool false) rfl (by kernel_rfl) (by kernel_rfl) (by kernel_rfl) (fun _ _ _ h => h) (.inl ⟨by rfl, fun w hSw => by (try dsimp only at hSw); go_simp⟩) hHeld ?_
  change wpAnyH _ _ _ _ _ _ _ (Act.put _ (some 28) _) _
  try simp only [Act.put, List.setIfInBounds_toArray, List.set_cons_zero, List.set_cons_succ]
  refine wpAnyH_take (i := 15) (v := .bool false) rfl (by kernel_rfl) (by kernel_rfl) (by kernel_rfl) (fun _ _ _ h => h) (.inl ⟨by rfl, fun w hSw => by (try dsimp only at hSw); go_simp⟩) hHeld ?_
  change wpAnyH _ _ _ _ _ _ _ (Act.put _ (some 4) _) _
  try simp only [Act.put, List.setIfInBounds_toArray, List.set_cons_zero, List.set_cons_succ]
  refine wpAnyH_done (by kernel_rfl) ?_ _
  go_wp2
  go_ret
  exact ⟨rfl, HB5.out.trans (hS1.mono HB5.out.size)⟩

set_option maxHeartbeats 2000000 in
set_option maxRecDepth 100000 in
theorem FU_neg (W : World) (k u x : Int) (s : ByteArray) (A : Option Addr) (n c : Nat) (h0 : 9223372036854775808 ≤ u) (h1 : u < 18446744073709551616) : Calls Tryd.prog 22 #[.agg #[.int .i64 2, .int .u64 u, .string s, .int .i64 x, .slice A n c], .int .i64 16] W fun e w' => e = .returned (.bool false) ∧ Below W.heap.size W w' := by
  have hw : IntKind.i64.wrap u = u - 18446744073709551616 := by simp [IntKind.wrap, IntKind.bits, IntKind.signed]; omega
  have hd : decide (u - 18446744073709551616 < 0) = true := decide_eq_true (by omega)
  go_enter Tryd.func22, Tryd.ntmps22
  go_wp2
  go_ret
  exact ⟨rfl, (Below.refl _ W).alloc (Nat.le_refl _) _⟩

set_option maxHeartbeats 2000000 in
set_option maxRecDepth 100000 in
theorem FU_yes2 (W : World) (k u x : Int) (s : ByteArray) (A : Option Addr) (n c : Nat) (h0 : 0 ≤ u) (h1 : u ≤ 65535) : Calls Tryd.prog 22 #[.agg #[.int .i64 2, .int .u64 u, .string s, .int .i64 x, .slice A n c], .int .i64 16] W fun e w' => e = .returned (.bool true) ∧ Below W.heap.size W w' := by
  have hw : IntKind.i64.wrap u = u := by simp [IntKind.wrap, IntKind.bits, IntKind.signed]; omega
  have hd : decide (u < 0) = false := decide_eq_false (by omega)
  go_enter Tryd.func22, Tryd.ntmps22
  go_wp2
  refine gen_code (fun W' => Blk W' W.heap.size 25 [.int .i64 2, .int .u64 u, .string s, .int .i64 x, .slice A n c] ∧ Below W.heap.size W W') ⟨Blk.new W 25 [_, _, _, _, _], (Below.refl _ W).alloc (Nat.le_refl _) _⟩ ?_
  rintro W5 ⟨hblk5, hbel5⟩
  have hk := fun W' (hW : Below W5.heap.size W5 W') => blk_cells5 (hblk5.below hW hblk5.lt)
  have HB5 := Lib.hid hbel5
  have kA : Below W5.heap.size W5 W5.drew := (Below.refl _ _).drew
  have h48 : IntKind.i64.wrap 48 = 48 := by decide
  have k0 := hk _ (Below.refl _ _)
  have k1 := hk _ kA
  clear hblk5 hbel5
  first | (go_region_held3 (fun W' => W'.cell? ⟨W.heap.size, 0, none⟩ = some (.int .i64 2) ∧ W'.cell? ⟨W.heap.size, 1, none⟩ = some (.int .u64 u) ∧ W'.cell? ⟨W.heap.size, 2, none⟩ = some (.string s) ∧ W'.cell? ⟨W.heap.size, 3, none⟩ = some (.int .i64 x) ∧ W'.cell? ⟨W.heap.size, 4, none⟩ = some (.slice A n c)) (first | assumption | exact k1) (first
    | (go_at_call 12
       refine (Integer_2 W5.drew 2 u x s A n c).mono ?_
       rintro e w1 ⟨rfl, hb1⟩
       have hS1 : Below W5.heap.size W5 w1 := kA.trans (hb1.mono kA.size)
       have hK1 := hk _ hS1
       clear hb1))) | fail "the region"
  go_wp2
  go_ret
  first
    | exact ⟨rfl, HB5.out.trans (hS1.mono HB5.out.size)⟩
    | (refine ⟨?_, HB5.out.trans (hS1.mono HB5.out.size)⟩
       show Ending.returned (Value.bool (_ == _)) = _
       congr 2
       simp only [beq_iff_eq, beq_eq_false_iff_ne]
       try simp only [IntKind.wrap_u64]
       omega)

set_option maxHeartbeats 2000000 in
set_option maxRecDepth 100000 in
theorem FU_out2 (W : World) (k u x : Int) (s : ByteArray) (A : Option Addr) (n c : Nat) (h0 : 65535 < u) (h1 : u < 9223372036854775808) : Calls Tryd.prog 22 #[.agg #[.int .i64 2, .int .u64 u, .string s, .int .i64 x, .slice A n c], .int .i64 16] W fun e w' => e = .returned (.bool false) ∧ Below W.heap.size W w' := by
  have hw : IntKind.i64.wrap u = u := by simp [IntKind.wrap, IntKind.bits, IntKind.signed]; omega
  have hd : decide (u < 0) = false := decide_eq_false (by omega)
  go_enter Tryd.func22, Tryd.ntmps22
  go_wp2
  refine gen_code (fun W' => Blk W' W.heap.size 25 [.int .i64 2, .int .u64 u, .string s, .int .i64 x, .slice A n c] ∧ Below W.heap.size W W') ⟨Blk.new W 25 [_, _, _, _, _], (Below.refl _ W).alloc (Nat.le_refl _) _⟩ ?_
  rintro W5 ⟨hblk5, hbel5⟩
  have hk := fun W' (hW : Below W5.heap.size W5 W') => blk_cells5 (hblk5.below hW hblk5.lt)
  have HB5 := Lib.hid hbel5
  have kA : Below W5.heap.size W5 W5.drew := (Below.refl _ _).drew
  have h48 : IntKind.i64.wrap 48 = 48 := by decide
  have k0 := hk _ (Below.refl _ _)
  have k1 := hk _ kA
  clear hblk5 hbel5
  first | (go_region_held3 (fun W' => W'.cell? ⟨W.heap.size, 0, none⟩ = some (.int .i64 2) ∧ W'.cell? ⟨W.heap.size, 1, none⟩ = some (.int .u64 u) ∧ W'.cell? ⟨W.heap.size, 2, none⟩ = some (.string s) ∧ W'.cell? ⟨W.heap.size, 3, none⟩ = some (.int .i64 x) ∧ W'.cell? ⟨W.heap.size, 4, none⟩ = some (.slice A n c)) (first | assumption | exact k1) (first
    | (go_at_call 12
       refine (Integer_2 W5.drew 2 u x s A n c).mono ?_
       rintro e w1 ⟨rfl, hb1⟩
       have hS1 : Below W5.heap.size W5 w1 := kA.trans (hb1.mono kA.size)
       have hK1 := hk _ hS1
       clear hb1))) | fail "the region"
  go_wp2
  go_ret
  first
    | exact ⟨rfl, HB5.out.trans (hS1.mono HB5.out.size)⟩
    | (refine ⟨?_, HB5.out.trans (hS1.mono HB5.out.size)⟩
       show Ending.returned (Value.bool (_ == _)) = _
       congr 2
       simp only [beq_iff_eq, beq_eq_false_iff_ne]
       try simp only [IntKind.wrap_u64]
       omega)

set_option maxHeartbeats 2000000 in
set_option maxRecDepth 100000 in
theorem FU_yes3 (W : World) (k u x : Int) (s : ByteArray) (A : Option Addr) (n c : Nat) (h0 : 0 ≤ u) (h1 : u ≤ 65535) : Calls Tryd.prog 22 #[.agg #[.int .i64 3, .int .u64 u, .string s, .int .i64 x, .slice A n c], .int .i64 16] W fun e w' => e = .returned (.bool true) ∧ Below W.heap.size W w' := by
  go_enter Tryd.func22, Tryd.ntmps22
  go_wp2
  refine gen_code (fun W' => Blk W' W.heap.size 25 [.int .i64 3, .int .u64 u, .string s, .int .i64 x, .slice A n c] ∧ Below W.heap.size W W') ⟨Blk.new W 25 [_, _, _, _, _], (Below.refl _ W).alloc (Nat.le_refl _) _⟩ ?_
  rintro W5 ⟨hblk5, hbel5⟩
  have hk := fun W' (hW : Below W5.heap.size W5 W') => blk_cells5 (hblk5.below hW hblk5.lt)
  have HB5 := Lib.hid hbel5
  have kA : Below W5.heap.size W5 W5.drew := (Below.refl _ _).drew
  have h48 : IntKind.i64.wrap 48 = 48 := by decide
  have k0 := hk _ (Below.refl _ _)
  have k1 := hk _ kA
  clear hblk5 hbel5
  first | (go_region_held3 (fun W' => W'.cell? ⟨W.heap.size, 0, none⟩ = some (.int .i64 3) ∧ W'.cell? ⟨W.heap.size, 1, none⟩ = some (.int .u64 u) ∧ W'.cell? ⟨W.heap.size, 2, none⟩ = some (.string s) ∧ W'.cell? ⟨W.heap.size, 3, none⟩ = some (.int .i64 x) ∧ W'.cell? ⟨W.heap.size, 4, none⟩ = some (.slice A n c)) (first | assumption | exact k1) (first
    | (go_at_call 12
       refine (Integer_3 W5.drew 3 u x s A n c).mono ?_
       rintro e w1 ⟨rfl, hb1⟩
       have hS1 : Below W5.heap.size W5 w1 := kA.trans (hb1.mono kA.size)
       have hK1 := hk _ hS1
       clear hb1))) | fail "the region"
  go_wp2
  go_ret
  first
    | exact ⟨rfl, HB5.out.trans (hS1.mono HB5.out.size)⟩
    | (refine ⟨?_, HB5.out.trans (hS1.mono HB5.out.size)⟩
       show Ending.returned (Value.bool (_ == _)) = _
       congr 2
       simp only [beq_iff_eq, beq_eq_false_iff_ne]
       try simp only [IntKind.wrap_u64]
       omega)

set_option maxHeartbeats 2000000 in
set_option maxRecDepth 100000 in
theorem FU_out3 (W : World) (k u x : Int) (s : ByteArray) (A : Option Addr) (n c : Nat) (h0 : 65535 < u) (h1 : u < 18446744073709551616) : Calls Tryd.prog 22 #[.agg #[.int .i64 3, .int .u64 u, .string s, .int .i64 x, .slice A n c], .int .i64 16] W fun e w' => e = .returned (.bool false) ∧ Below W.heap.size W w' := by
  go_enter Tryd.func22, Tryd.ntmps22
  go_wp2
  refine gen_code (fun W' => Blk W' W.heap.size 25 [.int .i64 3, .int .u64 u, .string s, .int .i64 x, .slice A n c] ∧ Below W.heap.size W W') ⟨Blk.new W 25 [_, _, _, _, _], (Below.refl _ W).alloc (Nat.le_refl _) _⟩ ?_
  rintro W5 ⟨hblk5, hbel5⟩
  have hk := fun W' (hW : Below W5.heap.size W5 W') => blk_cells5 (hblk5.below hW hblk5.lt)
  have HB5 := Lib.hid hbel5
  have kA : Below W5.heap.size W5 W5.drew := (Below.refl _ _).drew
  have h48 : IntKind.i64.wrap 48 = 48 := by decide
  have k0 := hk _ (Below.refl _ _)
  have k1 := hk _ kA
  clear hblk5 hbel5
  first | (go_region_held3 (fun W' => W'.cell? ⟨W.heap.size, 0, none⟩ = some (.int .i64 3) ∧ W'.cell? ⟨W.heap.size, 1, none⟩ = some (.int .u64 u) ∧ W'.cell? ⟨W.heap.size, 2, none⟩ = some (.string s) ∧ W'.cell? ⟨W.heap.size, 3, none⟩ = some (.int .i64 x) ∧ W'.cell? ⟨W.heap.size, 4, none⟩ = some (.slice A n c)) (first | assumption | exact k1) (first
    | (go_at_call 12
       refine (Integer_3 W5.drew 3 u x s A n c).mono ?_
       rintro e w1 ⟨rfl, hb1⟩
       have hS1 : Below W5.heap.size W5 w1 := kA.trans (hb1.mono kA.size)
       have hK1 := hk _ hS1
       clear hb1))) | fail "the region"
  go_wp2
  go_ret
  first
    | exact ⟨rfl, HB5.out.trans (hS1.mono HB5.out.size)⟩
    | (refine ⟨?_, HB5.out.trans (hS1.mono HB5.out.size)⟩
       show Ending.returned (Value.bool (_ == _)) = _
       congr 2
       simp only [beq_iff_eq, beq_eq_false_iff_ne]
       try simp only [IntKind.wrap_u64]
       omega)

theorem FU16_calls (W : World) (T : PT) (A : Option Addr) (c : Nat) (hwf : T.wf) : Calls Tryd.prog 22 #[vP T A c, .int .i64 16] W fun e w' => ∃ b : Bool, e = .returned (.bool b) ∧ (b = true ↔ FitU 65535 T) ∧ Below W.heap.size W w' := by
  obtain ⟨_, _, hu0, hu1, _⟩ := hwf
  unfold vP
  by_cases h2 : T.k = 2
  · rw [h2]
    by_cases hb : T.u ≤ 9223372036854775807
    · by_cases hc : T.u ≤ 65535
      · exact (FU_yes2 W 2 T.u T.x T.s A T.n c hu0 hc).mono fun e w' ⟨he, hbl⟩ => ⟨true, he, by simp [FitU, h2, hc, hb], hbl⟩
      · exact (FU_out2 W 2 T.u T.x T.s A T.n c (by omega) (by omega)).mono fun e w' ⟨he, hbl⟩ => ⟨false, he, ⟨(by intro hh; cases hh), fun hh => absurd hh.2 hc⟩, hbl⟩
    · exact (FU_neg W 2 T.u T.x T.s A T.n c (by omega) (by omega)).mono fun e w' ⟨he, hbl⟩ => ⟨false, he, by simp [FitU, h2, hb], hbl⟩
  by_cases h3 : T.k = 3
  · rw [h3]
    by_cases hc : T.u ≤ 65535
    · exact (FU_yes3 W 3 T.u T.x T.s A T.n c hu0 hc).mono fun e w' ⟨he, hbl⟩ => ⟨true, he, by simp [FitU, h3, hc], hbl⟩
    · exact (FU_out3 W 3 T.u T.x T.s A T.n c (by omega) (by omega)).mono fun e w' ⟨he, hbl⟩ => ⟨false, he, ⟨(by intro hh; cases hh), fun hh => absurd hh.2 hc⟩, hbl⟩
  · exact (FU_no W T.k T.u T.x T.s A T.n c h2 h3).mono fun e w' ⟨he, hbl⟩ => ⟨false, he, by simp [FitU, h2, h3], hbl⟩

theorem GU16_five (W : World) : Calls Tryd.prog 21 #[.slice (some ⟨W.heap.size, 0, none⟩) 1 1] (W.alloc (.cells #[.int .u8 5] 5)) (GB .u16 5 [] (W.alloc (.cells #[.int .u8 5] 5))) := by
  have hb := Blk.new W 5 [.int .u8 5]
  have hr : Reads (W.alloc (.cells #[.int .u8 5] 5)) (W.alloc (.cells #[.int .u8 5] 5)).heap.size 1 (some ⟨W.heap.size, 0, none⟩) 1 (bs ([5] ++ [])) := (hb.reads 0 1 (by simp)).more (show W.heap.size + 1 ≤ _ from hb.lt)
  have r64 := RU_in (W.alloc (.cells #[.int .u8 5] 5)) (W.alloc (.cells #[.int .u8 5] 5)).heap.size 1 (some ⟨W.heap.size, 0, none⟩) 5 [5] (.inl ⟨by omega, by omega, rfl⟩) (by omega) (by omega) [] hr (by simp) (by simp [maxLen]) (Nat.le_refl _)
  exact GU16_ok _ _ _ _ 5 [] _ (Nat.le_refl _) (by simp) (RU16_ok _ _ _ _ 5 [] _ (by omega) (by omega) r64)

set_option maxHeartbeats 8000000 in
set_option maxRecDepth 100000 in
theorem lawGU16_cut (T : PT) (W : World) (fo cut : Int) (A Ab : Option Addr) (c cb : Nat) (sh : Bool) (bl : List Int) (hwf : T.wf) (h : TR W W.heap.size T A c) (hbl : Reads W W.heap.size 1 Ab bl.length (bs bl)) (hbc : bl.length ≤ cb) (hbm : cb ≤ maxLen)
    (ts : TypeId) (vs : Value) (hsh : W.cell? ⟨1, 0, none⟩ = some (.iface ts vs)) (hG : 1 < W.heap.size) (hc : 0 < cut) :
    Calls Tryd.prog 7 #[.agg #[.int .i64 T.k, .int .u64 T.u, .string T.s, .int .i64 T.x, .slice A T.n c, .int .u64 fo, .bool sh, .slice Ab bl.length cb, .int .i64 cut]] W fun e w' => e = .returned (.bool true) ∧ Below W.heap.size W w' := by
  have hp1 : Blk (W.alloc (.cells #[.int .i64 T.k, .int .u64 T.u, .string T.s, .int .i64 T.x, .slice A T.n c, .int .u64 fo, .bool sh, .slice Ab bl.length cb, .int .i64 cut] 28)) W.heap.size 28 [.int .i64 T.k, .int .u64 T.u, .string T.s, .int .i64 T.x, .slice A T.n c, .int .u64 fo, .bool sh, .slice Ab bl.length cb, .int .i64 cut] := Blk.new W _ [_, _, _, _, _, _, _, _, _]
  have hbel : Below W.heap.size W (W.alloc (.cells #[.int .i64 T.k, .int .u64 T.u, .string T.s, .int .i64 T.x, .slice A T.n c, .int .u64 fo, .bool sh, .slice Ab bl.length cb, .int .i64 cut] 28)) := (Below.refl _ W).alloc (Nat.le_refl _) _
  have HP1 := Lib.hid hp1
  have HBEL := Lib.hid hbel
  have HT := Lib.hid h
  have HBL := Lib.hid hbl
  have HWF := Lib.hid hwf
  have HSH := Lib.hid hsh
  have HG := Lib.hid hG
  have hwr : IntKind.i64.wrap T.u = wrap64 T.u := wrap_i64 _
  have hwr2 : wrap64 (wrap64 T.u) = wrap64 T.u := by unfold wrap64; omega
  have hwr3 : IntKind.i64.wrap (wrap64 T.u) = wrap64 T.u := by rw [wrap_i64]; exact hwr2
  have hwu : IntKind.u64.wrap T.u = T.u := by rw [IntKind.wrap_u64]; have := hwf.2.2.1; have := hwf.2.2.2.1; omega
  have hbm2 : bl.length ≤ 9223372036854775807 := by simp only [maxLen] at hbm; omega
  clear hp1 hbel h hbl hwf hsh hG
  go_enter Tryd.func7, Tryd.ntmps7
  go_wp2_with (first
    | (go_at_call 9
       go_must (
         (refine (zzFits16_calls _ T.k T.u fo T.x cut T.s A Ab T.n c bl.length cb sh).mono ?_)
         rintro e w2 ⟨rfl, hb2⟩
         have hp2 := HP1.out.below hb2 HP1.out.lt
         have m0 := hp2.cell 0
         have m1 := hp2.cell 1
         have m2 := hp2.cell 2
         have m3 := hp2.cell 3
         have m4 := hp2.cell 4
         have m5 := hp2.cell 5
         have m6 := hp2.cell 6
         have m7 := hp2.cell 7
         have m8 := hp2.cell 8
         simp only [List.getElem?_cons_zero, List.getElem?_cons_succ] at m0 m1 m2 m3 m4 m5 m6 m7 m8
         have HP2 := Lib.hid hp2
         have HB2 : Hid (Below W.heap.size W w2) := HBEL.out.trans (hb2.mono HBEL.out.size)
         clear hp2 hb2))
    | (go_at_call 21
       first
       | (have HDD := HD.out
          clear HDD
          go_must (
         (have hbt : b = true := by first | assumption | (have hx : (!b) = false := (by assumption); simpa using hx))
         obtain ⟨hfit, hl100, enc, hfp, hm, hmc, hcm, hr⟩ := HD.out hbt
         refine (GU16_cut w4 c1 A1 T enc hfp hfit HWF.out m1 hm hr hmc hcm ts vs ?_).mono ?_
         · rw [HB4.out.cell (by show _ < _; exact HG.out)]; exact HSH.out
         rintro e w5 ⟨rfl, hb5⟩
         have HB5 : Hid (Below W.heap.size W w5) := HB4.out.trans (hb5.mono HB4.out.size)
         have hp5 := HP4.out.below hb5 HP4.out.lt
         have l0 := hp5.cell 0
         have l1 := hp5.cell 1
         have l2 := hp5.cell 2
         have l3 := hp5.cell 3
         have l4 := hp5.cell 4
         have l5 := hp5.cell 5
         have l6 := hp5.cell 6
         have l7 := hp5.cell 7
         have l8 := hp5.cell 8
         simp only [List.getElem?_cons_zero, List.getElem?_cons_succ] at l0 l1 l2 l3 l4 l5 l6 l7 l8
         have HP5 := Lib.hid hp5
         clear hb5 hp5 k0 k1 k2 k3 k4 k5 k6 k7 k8))
       | go_must (
         (refine (GU16_five w2).mono ?_)
         rintro e w3 ⟨A0, c0, rfl, hr3, hb3⟩
         have hba : Below W.heap.size W (w2.alloc (.cells #[.int .u8 5] 5)) := HB2.out.alloc HB2.out.size _
         have HB3 : Hid (Below W.heap.size W w3) := hba.trans (hb3.mono hba.size)
         have hp3 := (HP2.out.alloc (.cells #[.int .u8 5] 5)).below hb3 (HP2.out.alloc (.cells #[.int .u8 5] 5)).lt
         have j0 := hp3.cell 0
         have j1 := hp3.cell 1
         have j2 := hp3.cell 2
         have j3 := hp3.cell 3
         have j4 := hp3.cell 4
         have j5 := hp3.cell 5
         have j6 := hp3.cell 6
         have j7 := hp3.cell 7
         have j8 := hp3.cell 8
         simp only [List.getElem?_cons_zero, List.getElem?_cons_succ] at j0 j1 j2 j3 j4 j5 j6 j7 j8
         have HP3 := Lib.hid hp3
         clear hp3 hb3 hba hr3 m0 m1 m2 m3 m4 m5 m6 m7 m8))
    | (go_at_call 11
       go_must (
         (refine (data_calls T _ fo cut A Ab c cb sh bl (TR.more HB3.out.size _ _ _ (TR.below HB3.out _ _ _ HT.out)) ((HBL.out.below HB3.out).more HB3.out.size) hbc hbm).mono ?_)
         rintro e w4 hdat
         obtain ⟨A1, m1, c1, b, rfl, hb4, hd⟩ := hdat.cut hc
         have HB4 : Hid (Below W.heap.size W w4) := HB3.out.trans (hb4.mono HB3.out.size)
         have hp4 := HP3.out.below hb4 HP3.out.lt
         have k0 := hp4.cell 0
         have k1 := hp4.cell 1
         have k2 := hp4.cell 2
         have k3 := hp4.cell 3
         have k4 := hp4.cell 4
         have k5 := hp4.cell 5
         have k6 := hp4.cell 6
         have k7 := hp4.cell 7
         have k8 := hp4.cell 8
         simp only [List.getElem?_cons_zero, List.getElem?_cons_succ] at k0 k1 k2 k3 k4 k5 k6 k7 k8
         have HD := Lib.hid hd
         have HP4 := Lib.hid hp4
         clear hdat hd hb4 hp4 j0 j1 j2 j3 j4 j5 j6 j7 j8))
    | (go_at_call 22
       go_must (
         (refine (FU16_calls _ T A c HWF.out).mono ?_)
         rintro e w7 ⟨b7, rfl, hb7, hbel7⟩
         have hba5 : Below W.heap.size W (w5.alloc (.cells #[.int .i64 T.k, .int .u64 T.u, .string T.s, .int .i64 T.x, .slice A T.n c] 25)) := HB5.out.alloc HB5.out.size _
         have HB7 : Hid (Below W.heap.size W w7) := hba5.trans (hbel7.mono hba5.size)
         have hpv := (Blk.new w5 25 [.int .i64 T.k, .int .u64 T.u, .string T.s, .int .i64 T.x, .slice A T.n c]).below hbel7 (by simp)
         have v1 := hpv.cell 1
         simp only [List.getElem?_cons_zero, List.getElem?_cons_succ] at v1
         clear hb7 hpv hba5 l0 l1 l2 l3 l4 l5 l6 l7 l8))
)
  all_goals (
    (try simp only [Exit.inBlock, Exit.then])
    go_ret
    first
      | exact ⟨rfl, HB9.out⟩
      | exact ⟨rfl, HB7.out⟩
      | exact ⟨rfl, HB5.out.alloc HB5.out.size _⟩
      | exact ⟨rfl, HB4.out⟩
      | exact ⟨rfl, HB2.out⟩)

set_option maxHeartbeats 8000000 in
set_option maxRecDepth 100000 in
theorem lawGU16_fit (T : PT) (W : World) (fo cut : Int) (A Ab : Option Addr) (c cb : Nat) (sh : Bool) (bl : List Int) (hwf : T.wf) (h : TR W W.heap.size T A c) (hbl : Reads W W.heap.size 1 Ab bl.length (bs bl)) (hbc : bl.length ≤ cb) (hbm : cb ≤ maxLen)
    (ts : TypeId) (vs : Value) (hsh : W.cell? ⟨1, 0, none⟩ = some (.iface ts vs)) (hG : 1 < W.heap.size) (hc : ¬ 0 < cut) (hF : FitU 65535 T) :
    Calls Tryd.prog 7 #[.agg #[.int .i64 T.k, .int .u64 T.u, .string T.s, .int .i64 T.x, .slice A T.n c, .int .u64 fo, .bool sh, .slice Ab bl.length cb, .int .i64 cut]] W fun e w' => e = .returned (.bool true) ∧ Below W.heap.size W w' := by
  have hp1 : Blk (W.alloc (.cells #[.int .i64 T.k, .int .u64 T.u, .string T.s, .int .i64 T.x, .slice A T.n c, .int .u64 fo, .bool sh, .slice Ab bl.length cb, .int .i64 cut] 28)) W.heap.size 28 [.int .i64 T.k, .int .u64 T.u, .string T.s, .int .i64 T.x, .slice A T.n c, .int .u64 fo, .bool sh, .slice Ab bl.length cb, .int .i64 cut] := Blk.new W _ [_, _, _, _, _, _, _, _, _]
  have hbel : Below W.heap.size W (W.alloc (.cells #[.int .i64 T.k, .int .u64 T.u, .string T.s, .int .i64 T.x, .slice A T.n c, .int .u64 fo, .bool sh, .slice Ab bl.length cb, .int .i64 cut] 28)) := (Below.refl _ W).alloc (Nat.le_refl _) _
  have HP1 := Lib.hid hp1
  have HBEL := Lib.hid hbel
  have HT := Lib.hid h
  have HBL := Lib.hid hbl
  have HWF := Lib.hid hwf
  have HSH := Lib.hid hsh
  have HG := Lib.hid hG
  have hwr : IntKind.i64.wrap T.u = wrap64 T.u := wrap_i64 _
  have hwr2 : wrap64 (wrap64 T.u) = wrap64 T.u := by unfold wrap64; omega
  have hwr3 : IntKind.i64.wrap (wrap64 T.u) = wrap64 T.u := by rw [wrap_i64]; exact hwr2
  have hwu : IntKind.u64.wrap T.u = T.u := by rw [IntKind.wrap_u64]; have := hwf.2.2.1; have := hwf.2.2.2.1; omega
  have hbm2 : bl.length ≤ 9223372036854775807 := by simp only [maxLen] at hbm; omega
  clear hp1 hbel h hbl hwf hsh hG
  go_enter Tryd.func7, Tryd.ntmps7
  go_wp2_with (first
    | (go_at_call 9
       go_must (
         (refine (zzFits16_calls _ T.k T.u fo T.x cut T.s A Ab T.n c bl.length cb sh).mono ?_)
         rintro e w2 ⟨rfl, hb2⟩
         have hp2 := HP1.out.below hb2 HP1.out.lt
         have m0 := hp2.cell 0
         have m1 := hp2.cell 1
         have m2 := hp2.cell 2
         have m3 := hp2.cell 3
         have m4 := hp2.cell 4
         have m5 := hp2.cell 5
         have m6 := hp2.cell 6
         have m7 := hp2.cell 7
         have m8 := hp2.cell 8
         simp only [List.getElem?_cons_zero, List.getElem?_cons_succ] at m0 m1 m2 m3 m4 m5 m6 m7 m8
         have HP2 := Lib.hid hp2
         have HB2 : Hid (Below W.heap.size W w2) := HBEL.out.trans (hb2.mono HBEL.out.size)
         clear hp2 hb2))
    | (go_at_call 21
       first
       | (have HDD := HD.out
          clear HDD
          go_must (
         (have hbt : b = true := by first | assumption | (have hx : (!b) = false := (by assumption); simpa using hx))
         obtain ⟨hfit, hl100, hA2, hm2, enc, hfp, hm, hmc, hcm, hr⟩ := HD.out hbt
         subst hA2
         subst hm2
         subst hm
         refine (GU16_whole w4 c1 A1 T enc bl hfp hfit HWF.out hl100 hr hmc hcm).mono ?_
         rintro e w5 ⟨g1, g2⟩
         obtain ⟨A5, c5, rfl, hr5, hb5⟩ := g1 hF
         have HR5 := Lib.hid hr5
         clear hr5 g1 g2
         have HB5 : Hid (Below W.heap.size W w5) := HB4.out.trans (hb5.mono HB4.out.size)
         have hp5 := HP4.out.below hb5 HP4.out.lt
         have l0 := hp5.cell 0
         have l1 := hp5.cell 1
         have l2 := hp5.cell 2
         have l3 := hp5.cell 3
         have l4 := hp5.cell 4
         have l5 := hp5.cell 5
         have l6 := hp5.cell 6
         have l7 := hp5.cell 7
         have l8 := hp5.cell 8
         simp only [List.getElem?_cons_zero, List.getElem?_cons_succ] at l0 l1 l2 l3 l4 l5 l6 l7 l8
         have HP5 := Lib.hid hp5
         clear hb5 hp5 k0 k1 k2 k3 k4 k5 k6 k7 k8))
       | go_must (
         (refine (GU16_five w2).mono ?_)
         rintro e w3 ⟨A0, c0, rfl, hr3, hb3⟩
         have hba : Below W.heap.size W (w2.alloc (.cells #[.int .u8 5] 5)) := HB2.out.alloc HB2.out.size _
         have HB3 : Hid (Below W.heap.size W w3) := hba.trans (hb3.mono hba.size)
         have hp3 := (HP2.out.alloc (.cells #[.int .u8 5] 5)).below hb3 (HP2.out.alloc (.cells #[.int .u8 5] 5)).lt
         have j0 := hp3.cell 0
         have j1 := hp3.cell 1
         have j2 := hp3.cell 2
         have j3 := hp3.cell 3
         have j4 := hp3.cell 4
         have j5 := hp3.cell 5
         have j6 := hp3.cell 6
         have j7 := hp3.cell 7
         have j8 := hp3.cell 8
         simp only [List.getElem?_cons_zero, List.getElem?_cons_succ] at j0 j1 j2 j3 j4 j5 j6 j7 j8
         have HP3 := Lib.hid hp3
         clear hp3 hb3 hba hr3 m0 m1 m2 m3 m4 m5 m6 m7 m8))
    | (go_at_call 11
       go_must (
         (refine (data_calls T _ fo cut A Ab c cb sh bl (TR.more HB3.out.size _ _ _ (TR.below HB3.out _ _ _ HT.out)) ((HBL.out.below HB3.out).more HB3.out.size) hbc hbm).mono ?_)
         rintro e w4 hdat
         obtain ⟨A1, m1, c1, A2, m2, c2, b, rfl, hb4, hd⟩ := hdat.whole (by omega)
         have HB4 : Hid (Below W.heap.size W w4) := HB3.out.trans (hb4.mono HB3.out.size)
         have hp4 := HP3.out.below hb4 HP3.out.lt
         have k0 := hp4.cell 0
         have k1 := hp4.cell 1
         have k2 := hp4.cell 2
         have k3 := hp4.cell 3
         have k4 := hp4.cell 4
         have k5 := hp4.cell 5
         have k6 := hp4.cell 6
         have k7 := hp4.cell 7
         have k8 := hp4.cell 8
         simp only [List.getElem?_cons_zero, List.getElem?_cons_succ] at k0 k1 k2 k3 k4 k5 k6 k7 k8
         have HD := Lib.hid hd
         have HP4 := Lib.hid hp4
         clear hdat hd hb4 hp4 j0 j1 j2 j3 j4 j5 j6 j7 j8))
    | (go_at_call 22
       go_must (
         (refine (FU16_calls _ T A c HWF.out).mono ?_)
         rintro e w7 ⟨b7, rfl, hb7, hbel7⟩
         have hba5 : Below W.heap.size W (w5.alloc (.cells #[.int .i64 T.k, .int .u64 T.u, .string T.s, .int .i64 T.x, .slice A T.n c] 25)) := HB5.out.alloc HB5.out.size _
         have HB7 : Hid (Below W.heap.size W w7) := hba5.trans (hbel7.mono hba5.size)
         have hpv := (Blk.new w5 25 [.int .i64 T.k, .int .u64 T.u, .string T.s, .int .i64 T.x, .slice A T.n c]).below hbel7 (by simp)
         have v1 := hpv.cell 1
         simp only [List.getElem?_cons_zero, List.getElem?_cons_succ] at v1
         obtain rfl : b7 = true := hb7.2 hF
         have HR7 : Hid (Reads w7 w7.heap.size 1 A5 bl.length (bs bl)) := (((HR5.out.alloc (Nat.le_refl _) _).more (by simp)).below hbel7).more hbel7.size
         clear hb7 hpv hba5 l0 l1 l2 l3 l4 l5 l6 l7 l8))

    | (go_at_call 16
       go_must (
         (refine (left_calls w7 A5 A2 c5 c2 bl HR7.out ((HBL.out.below HB7.out).more HB7.out.size)).mono ?_)
         rintro e w9 ⟨rfl, hb9⟩
         have HB9 : Hid (Below W.heap.size W w9) := HB7.out.trans (hb9.mono HB7.out.size)
         clear hb9)))
  all_goals (
    (try simp only [Exit.inBlock, Exit.then])
    go_ret
    first
      | exact ⟨rfl, HB9.out⟩
      | exact ⟨rfl, HB7.out⟩
      | exact ⟨rfl, HB5.out.alloc HB5.out.size _⟩
      | exact ⟨rfl, HB4.out⟩
      | exact ⟨rfl, HB2.out⟩)

set_option maxHeartbeats 8000000 in
set_option maxRecDepth 100000 in
theorem lawGU16_unfit (T : PT) (W : World) (fo cut : Int) (A Ab : Option Addr) (c cb : Nat) (sh : Bool) (bl : List Int) (hwf : T.wf) (h : TR W W.heap.size T A c) (hbl : Reads W W.heap.size 1 Ab bl.length (bs bl)) (hbc : bl.length ≤ cb) (hbm : cb ≤ maxLen)
    (ts : TypeId) (vs : Value) (hsh : W.cell? ⟨1, 0, none⟩ = some (.iface ts vs)) (hG : 1 < W.heap.size) (hc : ¬ 0 < cut) (hF : ¬ FitU 65535 T) :
    Calls Tryd.prog 7 #[.agg #[.int .i64 T.k, .int .u64 T.u, .string T.s, .int .i64 T.x, .slice A T.n c, .int .u64 fo, .bool sh, .slice Ab bl.length cb, .int .i64 cut]] W fun e w' => e = .returned (.bool true) ∧ Below W.heap.size W w' := by
  have hp1 : Blk (W.alloc (.cells #[.int .i64 T.k, .int .u64 T.u, .string T.s, .int .i64 T.x, .slice A T.n c, .int .u64 fo, .bool sh, .slice Ab bl.length cb, .int .i64 cut] 28)) W.heap.size 28 [.int .i64 T.k, .int .u64 T.u, .string T.s, .int .i64 T.x, .slice A T.n c, .int .u64 fo, .bool sh, .slice Ab bl.length cb, .int .i64 cut] := Blk.new W _ [_, _, _, _, _, _, _, _, _]
  have hbel : Below W.heap.size W (W.alloc (.cells #[.int .i64 T.k, .int .u64 T.u, .string T.s, .int .i64 T.x, .slice A T.n c, .int .u64 fo, .bool sh, .slice Ab bl.length cb, .int .i64 cut] 28)) := (Below.refl _ W).alloc (Nat.le_refl _) _
  have HP1 := Lib.hid hp1
  have HBEL := Lib.hid hbel
  have HT := Lib.hid h
  have HBL := Lib.hid hbl
  have HWF := Lib.hid hwf
  have HSH := Lib.hid hsh
  have HG := Lib.hid hG
  have hwr : IntKind.i64.wrap T.u = wrap64 T.u := wrap_i64 _
  have hwr2 : wrap64 (wrap64 T.u) = wrap64 T.u := by unfold wrap64; omega
  have hwr3 : IntKind.i64.wrap (wrap64 T.u) = wrap64 T.u := by rw [wrap_i64]; exact hwr2
  have hwu : IntKind.u64.wrap T.u = T.u := by rw [IntKind.wrap_u64]; have := hwf.2.2.1; have := hwf.2.2.2.1; omega
  have hbm2 : bl.length ≤ 9223372036854775807 := by simp only [maxLen] at hbm; omega
  clear hp1 hbel h hbl hwf hsh hG
  go_enter Tryd.func7, Tryd.ntmps7
  go_wp2_with (first
    | (go_at_call 9
       go_must (
         (refine (zzFits16_calls _ T.k T.u fo T.x cut T.s A Ab T.n c bl.length cb sh).mono ?_)
         rintro e w2 ⟨rfl, hb2⟩
         have hp2 := HP1.out.below hb2 HP1.out.lt
         have m0 := hp2.cell 0
         have m1 := hp2.cell 1
         have m2 := hp2.cell 2
         have m3 := hp2.cell 3
         have m4 := hp2.cell 4
         have m5 := hp2.cell 5
         have m6 := hp2.cell 6
         have m7 := hp2.cell 7
         have m8 := hp2.cell 8
         simp only [List.getElem?_cons_zero, List.getElem?_cons_succ] at m0 m1 m2 m3 m4 m5 m6 m7 m8
         have HP2 := Lib.hid hp2
         have HB2 : Hid (Below W.heap.size W w2) := HBEL.out.trans (hb2.mono HBEL.out.size)
         clear hp2 hb2))
    | (go_at_call 21
       first
       | (have HDD := HD.out
          clear HDD
          go_must (
         (have hbt : b = true := by first | assumption | (have hx : (!b) = false := (by assumption); simpa using hx))
         obtain ⟨hfit, hl100, hA2, hm2, enc, hfp, hm, hmc, hcm, hr⟩ := HD.out hbt
         subst hA2
         subst hm2
         subst hm
         refine (GU16_whole w4 c1 A1 T enc bl hfp hfit HWF.out hl100 hr hmc hcm).mono ?_
         rintro e w5 ⟨g1, g2⟩
         obtain ⟨rfl, hb5⟩ := g2 hF
         clear g1 g2
         have HB5 : Hid (Below W.heap.size W w5) := HB4.out.trans (hb5.mono HB4.out.size)
         have hp5 := HP4.out.below hb5 HP4.out.lt
         have l0 := hp5.cell 0
         have l1 := hp5.cell 1
         have l2 := hp5.cell 2
         have l3 := hp5.cell 3
         have l4 := hp5.cell 4
         have l5 := hp5.cell 5
         have l6 := hp5.cell 6
         have l7 := hp5.cell 7
         have l8 := hp5.cell 8
         simp only [List.getElem?_cons_zero, List.getElem?_cons_succ] at l0 l1 l2 l3 l4 l5 l6 l7 l8
         have HP5 := Lib.hid hp5
         clear hb5 hp5 k0 k1 k2 k3 k4 k5 k6 k7 k8))
       | go_must (
         (refine (GU16_five w2).mono ?_)
         rintro e w3 ⟨A0, c0, rfl, hr3, hb3⟩
         have hba : Below W.heap.size W (w2.alloc (.cells #[.int .u8 5] 5)) := HB2.out.alloc HB2.out.size _
         have HB3 : Hid (Below W.heap.size W w3) := hba.trans (hb3.mono hba.size)
         have hp3 := (HP2.out.alloc (.cells #[.int .u8 5] 5)).below hb3 (HP2.out.alloc (.cells #[.int .u8 5] 5)).lt
         have j0 := hp3.cell 0
         have j1 := hp3.cell 1
         have j2 := hp3.cell 2
         have j3 := hp3.cell 3
         have j4 := hp3.cell 4
         have j5 := hp3.cell 5
         have j6 := hp3.cell 6
         have j7 := hp3.cell 7
         have j8 := hp3.cell 8
         simp only [List.getElem?_cons_zero, List.getElem?_cons_succ] at j0 j1 j2 j3 j4 j5 j6 j7 j8
         have HP3 := Lib.hid hp3
         clear hp3 hb3 hba hr3 m0 m1 m2 m3 m4 m5 m6 m7 m8))
    | (go_at_call 11
       go_must (
         (refine (data_calls T _ fo cut A Ab c cb sh bl (TR.more HB3.out.size _ _ _ (TR.below HB3.out _ _ _ HT.out)) ((HBL.out.below HB3.out).more HB3.out.size) hbc hbm).mono ?_)
         rintro e w4 hdat
         obtain ⟨A1, m1, c1, A2, m2, c2, b, rfl, hb4, hd⟩ := hdat.whole (by omega)
         have HB4 : Hid (Below W.heap.size W w4) := HB3.out.trans (hb4.mono HB3.out.size)
         have hp4 := HP3.out.below hb4 HP3.out.lt
         have k0 := hp4.cell 0
         have k1 := hp4.cell 1
         have k2 := hp4.cell 2
         have k3 := hp4.cell 3
         have k4 := hp4.cell 4
         have k5 := hp4.cell 5
         have k6 := hp4.cell 6
         have k7 := hp4.cell 7
         have k8 := hp4.cell 8
         simp only [List.getElem?_cons_zero, List.getElem?_cons_succ] at k0 k1 k2 k3 k4 k5 k6 k7 k8
         have HD := Lib.hid hd
         have HP4 := Lib.hid hp4
         clear hdat hd hb4 hp4 j0 j1 j2 j3 j4 j5 j6 j7 j8))
    | (go_at_call 22
       go_must (
         (refine (FU16_calls _ T A c HWF.out).mono ?_)
         rintro e w7 ⟨b7, rfl, hb7, hbel7⟩
         have hba5 : Below W.heap.size W (w5.alloc (.cells #[.int .i64 T.k, .int .u64 T.u, .string T.s, .int .i64 T.x, .slice A T.n c] 25)) := HB5.out.alloc HB5.out.size _
         have HB7 : Hid (Below W.heap.size W w7) := hba5.trans (hbel7.mono hba5.size)
         have hpv := (Blk.new w5 25 [.int .i64 T.k, .int .u64 T.u, .string T.s, .int .i64 T.x, .slice A T.n c]).below hbel7 (by simp)
         have v1 := hpv.cell 1
         simp only [List.getElem?_cons_zero, List.getElem?_cons_succ] at v1
         obtain rfl : b7 = false := by cases b7 with | false => rfl | true => exact absurd (hb7.1 rfl) hF
         clear hb7 hpv hba5 l0 l1 l2 l3 l4 l5 l6 l7 l8))
)
  all_goals (
    (try simp only [Exit.inBlock, Exit.then])
    go_ret
    first
      | exact ⟨rfl, HB9.out⟩
      | exact ⟨rfl, HB7.out⟩
      | exact ⟨rfl, HB5.out.alloc HB5.out.size _⟩
      | exact ⟨rfl, HB4.out⟩
      | exact ⟨rfl, HB2.out⟩)
end Go.Proofs.YtlpnaifagiddlaaDoor
