/- spec.packFits over a tree: what it takes. PRINTED by wip/genpi.py. -/
import Derived.Test.YtlpnaifagiddlaaDoorPi
import Derived.BigGuardPart
import Derived.Laws.Strings
namespace Go.Proofs.YtlpnaifagiddlaaDoor
open Go.RowKit
set_option linter.unusedVariables false

set_option maxHeartbeats 4000000 in
set_option maxRecDepth 100000 in
theorem packFits_low (W : World) (k u x lv : Int) (s : ByteArray) (n c : Nat) (A : Option Addr) (hl : lv ≤ 0) :
    Calls Tryd.prog 42 #[.agg #[.int .i64 k, .int .u64 u, .string s, .int .i64 x, .slice A n c], .int .i64 lv] W fun e W' => e = .returned (.bool false) ∧ Below W.heap.size W W' := by
  have hld : decide (lv ≤ 0) = true := decide_eq_true hl
  by_cases h8 : k = 8 ∨ k = 9
  · rcases h8 with rfl | rfl
    all_goals
      go_enter Tryd.func42, Tryd.ntmps42
      go_wp2
      go_ret
      exact ⟨rfl, (Below.refl _ _).alloc (Nat.le_refl _) _⟩
  have e8 : (k == 8) = false := by simp; omega
  have e9 : (k == 9) = false := by simp; omega
  clear h8
  by_cases h6 : k = 6 ∨ k = 7 ∨ k = 10
  · rcases h6 with rfl | rfl | rfl
    all_goals
      go_enter Tryd.func42, Tryd.ntmps42
      go_wp2
      go_ret
      exact ⟨rfl, (Below.refl _ _).alloc (Nat.le_refl _) _⟩
  have e6 : (k == 6) = false := by simp; omega
  have e7 : (k == 7) = false := by simp; omega
  have e10 : (k == 10) = false := by simp; omega
  clear h6
  by_cases h1 : 1 ≤ k
  · by_cases h5 : k ≤ 5
    · have hd5 : decide (k ≤ 5) = true := decide_eq_true h5
      go_enter Tryd.func42, Tryd.ntmps42
      go_wp2
      go_ret
      exact ⟨rfl, (Below.refl _ _).alloc (Nat.le_refl _) _⟩
    · have hd5 : decide (k ≤ 5) = false := decide_eq_false h5
      go_enter Tryd.func42, Tryd.ntmps42
      go_wp2
      go_ret
      exact ⟨rfl, (Below.refl _ _).alloc (Nat.le_refl _) _⟩
  · have hd1 : decide (1 ≤ k) = false := decide_eq_false h1
    go_enter Tryd.func42, Tryd.ntmps42
    go_wp2
    go_ret
    exact ⟨rfl, (Below.refl _ _).alloc (Nat.le_refl _) _⟩
set_option maxHeartbeats 4000000 in
set_option maxRecDepth 100000 in
theorem packFits_out (W : World) (k u x lv : Int) (s : ByteArray) (n c : Nat) (A : Option Addr) (hl : 0 < lv) (h : k < 0 ∨ 10 < k) :
    Calls Tryd.prog 42 #[.agg #[.int .i64 k, .int .u64 u, .string s, .int .i64 x, .slice A n c], .int .i64 lv] W fun e W' => e = .returned (.bool false) ∧ Below W.heap.size W W' := by
  have e8 : (k == 8) = false := by simp; omega
  have e9 : (k == 9) = false := by simp; omega
  have e6 : (k == 6) = false := by simp; omega
  have e7 : (k == 7) = false := by simp; omega
  have e10 : (k == 10) = false := by simp; omega
  have hld : decide (lv ≤ 0) = false := decide_eq_false (by omega)
  rcases h with h | h
  · have hk0 : decide (k < 0) = true := decide_eq_true h
    go_enter Tryd.func42, Tryd.ntmps42
    go_wp2
    go_ret
    exact ⟨rfl, (Below.refl _ _).alloc (Nat.le_refl _) _⟩
  · go_enter Tryd.func42, Tryd.ntmps42
    go_wp2
    all_goals first
      | (go_ret
         exact ⟨rfl, (Below.refl _ _).alloc (Nat.le_refl _) _⟩)
      | (exfalso; omega)
      | skip
    all_goals trace_state
theorem empty_of_list {s : ByteArray} (h : s.toList.isEmpty = true) : s = ByteArray.empty := by
  have h1 : s.toList = [] := List.isEmpty_iff.1 h
  rw [ByteArray.toList_eq] at h1
  exact ByteArray.ext (Array.ext' (by rw [h1]; rfl))
/-- What packFits says. -/
def PFit (T : PT) (lv : Int) (w : World) (e : Ending) (w' : World) : Prop := ∃ b : Bool, e = .returned (.bool b) ∧ (b = true → Fits T lv) ∧ Below w.heap.size w w'

set_option maxHeartbeats 8000000 in
set_option maxRecDepth 100000 in
theorem packFits_0 (B : Nat) (W : World) (u x lv : Int) (s : ByteArray) (n c : Nat) (A : Option Addr) (f : Nat → PT) (h : TR W B (.mk 0 u s x n f) A c) (hB : B ≤ W.heap.size) (hl : 0 < lv) (hl2 : lv ≤ 100)
    (ih : ∀ (i : Nat) (W3 : World) (Ai : Option Addr) (ci : Nat), TR W3 B (f i) Ai ci → B ≤ W3.heap.size → Calls Tryd.prog 42 #[vP (f i) Ai ci, .int .i64 (lv - 1)] W3 (PFit (f i) (lv - 1) W3)) :
    Calls Tryd.prog 42 #[.agg #[.int .i64 0, .int .u64 u, .string s, .int .i64 x, .slice A n c], .int .i64 lv] W (PFit (.mk 0 u s x n f) lv W) := by
  obtain ⟨hwf, hnc, hcm, hkids⟩ := h.open_
  obtain ⟨_, _, hu0, hu1, hx0, hx1, hss⟩ := hwf
  simp only [PT.n, PT.u, PT.x, PT.s] at hnc hu0 hu1 hx0 hx1 hss
  have hmx : n ≤ 9223372036854775807 := by simp only [maxLen] at hcm; omega
  have hsx : s.size ≤ 9223372036854775807 := by simp only [maxLen] at hss; omega
  have hld : decide (lv ≤ 0) = false := decide_eq_false (by omega)
  have HIH := Lib.hid ih
  have HKIDS := Lib.hid hkids
  clear ih h hkids hss hcm
  go_enter Tryd.func42, Tryd.ntmps42
  go_wp2
  all_goals
    first
      | (go_ret
         exact ⟨false, rfl, (by intro h; cases h), (Below.refl _ _).alloc (Nat.le_refl _) _⟩)
      | skip
  have hok : PT.ok (.mk 0 u s x n f) lv := by
    unfold PT.ok
    simp only [PT.n, PT.u, PT.x, PT.s, PT.k]
    refine ⟨hl, by omega, by omega, ?_, ?_, ?_, ?_, by omega, by omega, ?_, ?_, ?_, by omega, by omega⟩
    all_goals first | (intros; omega) | (intros; exact empty_of_list (by assumption)) | (intros; exfalso; omega)
  have HOK := Lib.hid hok
  clear hok
  go_loopw [145] (fun i wr => ∃ m : Nat, m ≤ n ∧ i = .int .i64 m ∧ Hid ((∀ i, i < m → Fits (f i) (lv - 1)) ∧ Below W.heap.size W wr)) (fun i _ => n - (intOf i).toNat)
  case atStart => exact ⟨0, Nat.zero_le _, rfl, (fun i hi => absurd hi (Nat.not_lt_zero i)), (Below.refl _ _).alloc (Nat.le_refl _) _⟩
  case round =>
    obtain ⟨m, hm, rfl, hrest⟩ := hrel
    have HF := Lib.hid hrest.out.1
    have HBW := Lib.hid hrest.out.2
    clear hrest
    by_cases hlt : m < n
    · exact absurd hlt (by omega)
    · obtain rfl : m = n := by omega
      go_wp2
      go_ret
      exact ⟨true, rfl, fun _ => ⟨HOK.out, HF.out⟩, HBW.out⟩

set_option maxHeartbeats 8000000 in
set_option maxRecDepth 100000 in
theorem packFits_1 (B : Nat) (W : World) (u x lv : Int) (s : ByteArray) (n c : Nat) (A : Option Addr) (f : Nat → PT) (h : TR W B (.mk 1 u s x n f) A c) (hB : B ≤ W.heap.size) (hl : 0 < lv) (hl2 : lv ≤ 100)
    (ih : ∀ (i : Nat) (W3 : World) (Ai : Option Addr) (ci : Nat), TR W3 B (f i) Ai ci → B ≤ W3.heap.size → Calls Tryd.prog 42 #[vP (f i) Ai ci, .int .i64 (lv - 1)] W3 (PFit (f i) (lv - 1) W3)) :
    Calls Tryd.prog 42 #[.agg #[.int .i64 1, .int .u64 u, .string s, .int .i64 x, .slice A n c], .int .i64 lv] W (PFit (.mk 1 u s x n f) lv W) := by
  obtain ⟨hwf, hnc, hcm, hkids⟩ := h.open_
  obtain ⟨_, _, hu0, hu1, hx0, hx1, hss⟩ := hwf
  simp only [PT.n, PT.u, PT.x, PT.s] at hnc hu0 hu1 hx0 hx1 hss
  have hmx : n ≤ 9223372036854775807 := by simp only [maxLen] at hcm; omega
  have hsx : s.size ≤ 9223372036854775807 := by simp only [maxLen] at hss; omega
  have hld : decide (lv ≤ 0) = false := decide_eq_false (by omega)
  have HIH := Lib.hid ih
  have HKIDS := Lib.hid hkids
  clear ih h hkids hss hcm
  go_enter Tryd.func42, Tryd.ntmps42
  go_wp2
  all_goals
    first
      | (go_ret
         exact ⟨false, rfl, (by intro h; cases h), (Below.refl _ _).alloc (Nat.le_refl _) _⟩)
      | skip
  have hok : PT.ok (.mk 1 u s x n f) lv := by
    unfold PT.ok
    simp only [PT.n, PT.u, PT.x, PT.s, PT.k]
    refine ⟨hl, by omega, by omega, ?_, ?_, ?_, ?_, by omega, by omega, ?_, ?_, ?_, by omega, by omega⟩
    all_goals first | (intros; omega) | (intros; exact empty_of_list (by assumption)) | (intros; exfalso; omega)
  have HOK := Lib.hid hok
  clear hok
  go_loopw [145] (fun i wr => ∃ m : Nat, m ≤ n ∧ i = .int .i64 m ∧ Hid ((∀ i, i < m → Fits (f i) (lv - 1)) ∧ Below W.heap.size W wr)) (fun i _ => n - (intOf i).toNat)
  case atStart => exact ⟨0, Nat.zero_le _, rfl, (fun i hi => absurd hi (Nat.not_lt_zero i)), (Below.refl _ _).alloc (Nat.le_refl _) _⟩
  case round =>
    obtain ⟨m, hm, rfl, hrest⟩ := hrel
    have HF := Lib.hid hrest.out.1
    have HBW := Lib.hid hrest.out.2
    clear hrest
    by_cases hlt : m < n
    · exact absurd hlt (by omega)
    · obtain rfl : m = n := by omega
      go_wp2
      go_ret
      exact ⟨true, rfl, fun _ => ⟨HOK.out, HF.out⟩, HBW.out⟩

set_option maxHeartbeats 8000000 in
set_option maxRecDepth 100000 in
theorem packFits_2 (B : Nat) (W : World) (u x lv : Int) (s : ByteArray) (n c : Nat) (A : Option Addr) (f : Nat → PT) (h : TR W B (.mk 2 u s x n f) A c) (hB : B ≤ W.heap.size) (hl : 0 < lv) (hl2 : lv ≤ 100)
    (ih : ∀ (i : Nat) (W3 : World) (Ai : Option Addr) (ci : Nat), TR W3 B (f i) Ai ci → B ≤ W3.heap.size → Calls Tryd.prog 42 #[vP (f i) Ai ci, .int .i64 (lv - 1)] W3 (PFit (f i) (lv - 1) W3)) :
    Calls Tryd.prog 42 #[.agg #[.int .i64 2, .int .u64 u, .string s, .int .i64 x, .slice A n c], .int .i64 lv] W (PFit (.mk 2 u s x n f) lv W) := by
  obtain ⟨hwf, hnc, hcm, hkids⟩ := h.open_
  obtain ⟨_, _, hu0, hu1, hx0, hx1, hss⟩ := hwf
  simp only [PT.n, PT.u, PT.x, PT.s] at hnc hu0 hu1 hx0 hx1 hss
  have hmx : n ≤ 9223372036854775807 := by simp only [maxLen] at hcm; omega
  have hsx : s.size ≤ 9223372036854775807 := by simp only [maxLen] at hss; omega
  have hld : decide (lv ≤ 0) = false := decide_eq_false (by omega)
  have HIH := Lib.hid ih
  have HKIDS := Lib.hid hkids
  clear ih h hkids hss hcm
  go_enter Tryd.func42, Tryd.ntmps42
  go_wp2
  all_goals
    first
      | (go_ret
         exact ⟨false, rfl, (by intro h; cases h), (Below.refl _ _).alloc (Nat.le_refl _) _⟩)
      | skip
  have hok : PT.ok (.mk 2 u s x n f) lv := by
    unfold PT.ok
    simp only [PT.n, PT.u, PT.x, PT.s, PT.k]
    refine ⟨hl, by omega, by omega, ?_, ?_, ?_, ?_, by omega, by omega, ?_, ?_, ?_, by omega, by omega⟩
    all_goals first | (intros; omega) | (intros; exact empty_of_list (by assumption)) | (intros; exfalso; omega)
  have HOK := Lib.hid hok
  clear hok
  go_loopw [145] (fun i wr => ∃ m : Nat, m ≤ n ∧ i = .int .i64 m ∧ Hid ((∀ i, i < m → Fits (f i) (lv - 1)) ∧ Below W.heap.size W wr)) (fun i _ => n - (intOf i).toNat)
  case atStart => exact ⟨0, Nat.zero_le _, rfl, (fun i hi => absurd hi (Nat.not_lt_zero i)), (Below.refl _ _).alloc (Nat.le_refl _) _⟩
  case round =>
    obtain ⟨m, hm, rfl, hrest⟩ := hrel
    have HF := Lib.hid hrest.out.1
    have HBW := Lib.hid hrest.out.2
    clear hrest
    by_cases hlt : m < n
    · exact absurd hlt (by omega)
    · obtain rfl : m = n := by omega
      go_wp2
      go_ret
      exact ⟨true, rfl, fun _ => ⟨HOK.out, HF.out⟩, HBW.out⟩

set_option maxHeartbeats 8000000 in
set_option maxRecDepth 100000 in
theorem packFits_3 (B : Nat) (W : World) (u x lv : Int) (s : ByteArray) (n c : Nat) (A : Option Addr) (f : Nat → PT) (h : TR W B (.mk 3 u s x n f) A c) (hB : B ≤ W.heap.size) (hl : 0 < lv) (hl2 : lv ≤ 100)
    (ih : ∀ (i : Nat) (W3 : World) (Ai : Option Addr) (ci : Nat), TR W3 B (f i) Ai ci → B ≤ W3.heap.size → Calls Tryd.prog 42 #[vP (f i) Ai ci, .int .i64 (lv - 1)] W3 (PFit (f i) (lv - 1) W3)) :
    Calls Tryd.prog 42 #[.agg #[.int .i64 3, .int .u64 u, .string s, .int .i64 x, .slice A n c], .int .i64 lv] W (PFit (.mk 3 u s x n f) lv W) := by
  obtain ⟨hwf, hnc, hcm, hkids⟩ := h.open_
  obtain ⟨_, _, hu0, hu1, hx0, hx1, hss⟩ := hwf
  simp only [PT.n, PT.u, PT.x, PT.s] at hnc hu0 hu1 hx0 hx1 hss
  have hmx : n ≤ 9223372036854775807 := by simp only [maxLen] at hcm; omega
  have hsx : s.size ≤ 9223372036854775807 := by simp only [maxLen] at hss; omega
  have hld : decide (lv ≤ 0) = false := decide_eq_false (by omega)
  have HIH := Lib.hid ih
  have HKIDS := Lib.hid hkids
  clear ih h hkids hss hcm
  go_enter Tryd.func42, Tryd.ntmps42
  go_wp2
  all_goals
    first
      | (go_ret
         exact ⟨false, rfl, (by intro h; cases h), (Below.refl _ _).alloc (Nat.le_refl _) _⟩)
      | skip
  have hok : PT.ok (.mk 3 u s x n f) lv := by
    unfold PT.ok
    simp only [PT.n, PT.u, PT.x, PT.s, PT.k]
    refine ⟨hl, by omega, by omega, ?_, ?_, ?_, ?_, by omega, by omega, ?_, ?_, ?_, by omega, by omega⟩
    all_goals first | (intros; omega) | (intros; exact empty_of_list (by assumption)) | (intros; exfalso; omega)
  have HOK := Lib.hid hok
  clear hok
  go_loopw [145] (fun i wr => ∃ m : Nat, m ≤ n ∧ i = .int .i64 m ∧ Hid ((∀ i, i < m → Fits (f i) (lv - 1)) ∧ Below W.heap.size W wr)) (fun i _ => n - (intOf i).toNat)
  case atStart => exact ⟨0, Nat.zero_le _, rfl, (fun i hi => absurd hi (Nat.not_lt_zero i)), (Below.refl _ _).alloc (Nat.le_refl _) _⟩
  case round =>
    obtain ⟨m, hm, rfl, hrest⟩ := hrel
    have HF := Lib.hid hrest.out.1
    have HBW := Lib.hid hrest.out.2
    clear hrest
    by_cases hlt : m < n
    · exact absurd hlt (by omega)
    · obtain rfl : m = n := by omega
      go_wp2
      go_ret
      exact ⟨true, rfl, fun _ => ⟨HOK.out, HF.out⟩, HBW.out⟩

set_option maxHeartbeats 8000000 in
set_option maxRecDepth 100000 in
theorem packFits_4 (B : Nat) (W : World) (u x lv : Int) (s : ByteArray) (n c : Nat) (A : Option Addr) (f : Nat → PT) (h : TR W B (.mk 4 u s x n f) A c) (hB : B ≤ W.heap.size) (hl : 0 < lv) (hl2 : lv ≤ 100)
    (ih : ∀ (i : Nat) (W3 : World) (Ai : Option Addr) (ci : Nat), TR W3 B (f i) Ai ci → B ≤ W3.heap.size → Calls Tryd.prog 42 #[vP (f i) Ai ci, .int .i64 (lv - 1)] W3 (PFit (f i) (lv - 1) W3)) :
    Calls Tryd.prog 42 #[.agg #[.int .i64 4, .int .u64 u, .string s, .int .i64 x, .slice A n c], .int .i64 lv] W (PFit (.mk 4 u s x n f) lv W) := by
  obtain ⟨hwf, hnc, hcm, hkids⟩ := h.open_
  obtain ⟨_, _, hu0, hu1, hx0, hx1, hss⟩ := hwf
  simp only [PT.n, PT.u, PT.x, PT.s] at hnc hu0 hu1 hx0 hx1 hss
  have hmx : n ≤ 9223372036854775807 := by simp only [maxLen] at hcm; omega
  have hsx : s.size ≤ 9223372036854775807 := by simp only [maxLen] at hss; omega
  have hld : decide (lv ≤ 0) = false := decide_eq_false (by omega)
  have HIH := Lib.hid ih
  have HKIDS := Lib.hid hkids
  clear ih h hkids hss hcm
  go_enter Tryd.func42, Tryd.ntmps42
  go_wp2
  all_goals
    first
      | (go_ret
         exact ⟨false, rfl, (by intro h; cases h), (Below.refl _ _).alloc (Nat.le_refl _) _⟩)
      | skip
  have hok : PT.ok (.mk 4 u s x n f) lv := by
    unfold PT.ok
    simp only [PT.n, PT.u, PT.x, PT.s, PT.k]
    refine ⟨hl, by omega, by omega, ?_, ?_, ?_, ?_, by omega, by omega, ?_, ?_, ?_, by omega, by omega⟩
    all_goals first | (intros; omega) | (intros; exact empty_of_list (by assumption)) | (intros; exfalso; omega)
  have HOK := Lib.hid hok
  clear hok
  go_loopw [145] (fun i wr => ∃ m : Nat, m ≤ n ∧ i = .int .i64 m ∧ Hid ((∀ i, i < m → Fits (f i) (lv - 1)) ∧ Below W.heap.size W wr)) (fun i _ => n - (intOf i).toNat)
  case atStart => exact ⟨0, Nat.zero_le _, rfl, (fun i hi => absurd hi (Nat.not_lt_zero i)), (Below.refl _ _).alloc (Nat.le_refl _) _⟩
  case round =>
    obtain ⟨m, hm, rfl, hrest⟩ := hrel
    have HF := Lib.hid hrest.out.1
    have HBW := Lib.hid hrest.out.2
    clear hrest
    by_cases hlt : m < n
    · exact absurd hlt (by omega)
    · obtain rfl : m = n := by omega
      go_wp2
      go_ret
      exact ⟨true, rfl, fun _ => ⟨HOK.out, HF.out⟩, HBW.out⟩

set_option maxHeartbeats 8000000 in
set_option maxRecDepth 100000 in
theorem packFits_5 (B : Nat) (W : World) (u x lv : Int) (s : ByteArray) (n c : Nat) (A : Option Addr) (f : Nat → PT) (h : TR W B (.mk 5 u s x n f) A c) (hB : B ≤ W.heap.size) (hl : 0 < lv) (hl2 : lv ≤ 100)
    (ih : ∀ (i : Nat) (W3 : World) (Ai : Option Addr) (ci : Nat), TR W3 B (f i) Ai ci → B ≤ W3.heap.size → Calls Tryd.prog 42 #[vP (f i) Ai ci, .int .i64 (lv - 1)] W3 (PFit (f i) (lv - 1) W3)) :
    Calls Tryd.prog 42 #[.agg #[.int .i64 5, .int .u64 u, .string s, .int .i64 x, .slice A n c], .int .i64 lv] W (PFit (.mk 5 u s x n f) lv W) := by
  obtain ⟨hwf, hnc, hcm, hkids⟩ := h.open_
  obtain ⟨_, _, hu0, hu1, hx0, hx1, hss⟩ := hwf
  simp only [PT.n, PT.u, PT.x, PT.s] at hnc hu0 hu1 hx0 hx1 hss
  have hmx : n ≤ 9223372036854775807 := by simp only [maxLen] at hcm; omega
  have hsx : s.size ≤ 9223372036854775807 := by simp only [maxLen] at hss; omega
  have hld : decide (lv ≤ 0) = false := decide_eq_false (by omega)
  have HIH := Lib.hid ih
  have HKIDS := Lib.hid hkids
  clear ih h hkids hss hcm
  go_enter Tryd.func42, Tryd.ntmps42
  go_wp2
  all_goals
    first
      | (go_ret
         exact ⟨false, rfl, (by intro h; cases h), (Below.refl _ _).alloc (Nat.le_refl _) _⟩)
      | skip
  have hok : PT.ok (.mk 5 u s x n f) lv := by
    unfold PT.ok
    simp only [PT.n, PT.u, PT.x, PT.s, PT.k]
    refine ⟨hl, by omega, by omega, ?_, ?_, ?_, ?_, by omega, by omega, ?_, ?_, ?_, by omega, by omega⟩
    all_goals first | (intros; omega) | (intros; exact empty_of_list (by assumption)) | (intros; exfalso; omega)
  have HOK := Lib.hid hok
  clear hok
  go_loopw [145] (fun i wr => ∃ m : Nat, m ≤ n ∧ i = .int .i64 m ∧ Hid ((∀ i, i < m → Fits (f i) (lv - 1)) ∧ Below W.heap.size W wr)) (fun i _ => n - (intOf i).toNat)
  case atStart => exact ⟨0, Nat.zero_le _, rfl, (fun i hi => absurd hi (Nat.not_lt_zero i)), (Below.refl _ _).alloc (Nat.le_refl _) _⟩
  case round =>
    obtain ⟨m, hm, rfl, hrest⟩ := hrel
    have HF := Lib.hid hrest.out.1
    have HBW := Lib.hid hrest.out.2
    clear hrest
    by_cases hlt : m < n
    · exact absurd hlt (by omega)
    · obtain rfl : m = n := by omega
      go_wp2
      go_ret
      exact ⟨true, rfl, fun _ => ⟨HOK.out, HF.out⟩, HBW.out⟩

set_option maxHeartbeats 8000000 in
set_option maxRecDepth 100000 in
theorem packFits_6 (B : Nat) (W : World) (u x lv : Int) (s : ByteArray) (n c : Nat) (A : Option Addr) (f : Nat → PT) (h : TR W B (.mk 6 u s x n f) A c) (hB : B ≤ W.heap.size) (hl : 0 < lv) (hl2 : lv ≤ 100)
    (ih : ∀ (i : Nat) (W3 : World) (Ai : Option Addr) (ci : Nat), TR W3 B (f i) Ai ci → B ≤ W3.heap.size → Calls Tryd.prog 42 #[vP (f i) Ai ci, .int .i64 (lv - 1)] W3 (PFit (f i) (lv - 1) W3)) :
    Calls Tryd.prog 42 #[.agg #[.int .i64 6, .int .u64 u, .string s, .int .i64 x, .slice A n c], .int .i64 lv] W (PFit (.mk 6 u s x n f) lv W) := by
  obtain ⟨hwf, hnc, hcm, hkids⟩ := h.open_
  obtain ⟨_, _, hu0, hu1, hx0, hx1, hss⟩ := hwf
  simp only [PT.n, PT.u, PT.x, PT.s] at hnc hu0 hu1 hx0 hx1 hss
  have hmx : n ≤ 9223372036854775807 := by simp only [maxLen] at hcm; omega
  have hsx : s.size ≤ 9223372036854775807 := by simp only [maxLen] at hss; omega
  have hld : decide (lv ≤ 0) = false := decide_eq_false (by omega)
  have HIH := Lib.hid ih
  have HKIDS := Lib.hid hkids
  clear ih h hkids hss hcm
  go_enter Tryd.func42, Tryd.ntmps42
  go_wp2
  all_goals
    first
      | (go_ret
         exact ⟨false, rfl, (by intro h; cases h), (Below.refl _ _).alloc (Nat.le_refl _) _⟩)
      | skip
  have hok : PT.ok (.mk 6 u s x n f) lv := by
    unfold PT.ok
    simp only [PT.n, PT.u, PT.x, PT.s, PT.k]
    refine ⟨hl, by omega, by omega, ?_, ?_, ?_, ?_, by omega, by omega, ?_, ?_, ?_, by omega, by omega⟩
    all_goals first | (intros; omega) | (intros; exact empty_of_list (by assumption)) | (intros; exfalso; omega)
  have HOK := Lib.hid hok
  clear hok
  go_loopw [145] (fun i wr => ∃ m : Nat, m ≤ n ∧ i = .int .i64 m ∧ Hid ((∀ i, i < m → Fits (f i) (lv - 1)) ∧ Below W.heap.size W wr)) (fun i _ => n - (intOf i).toNat)
  case atStart => exact ⟨0, Nat.zero_le _, rfl, (fun i hi => absurd hi (Nat.not_lt_zero i)), (Below.refl _ _).alloc (Nat.le_refl _) _⟩
  case round =>
    obtain ⟨m, hm, rfl, hrest⟩ := hrel
    have HF := Lib.hid hrest.out.1
    have HBW := Lib.hid hrest.out.2
    clear hrest
    by_cases hlt : m < n
    · exact absurd hlt (by omega)
    · obtain rfl : m = n := by omega
      go_wp2
      go_ret
      exact ⟨true, rfl, fun _ => ⟨HOK.out, HF.out⟩, HBW.out⟩

set_option maxHeartbeats 8000000 in
set_option maxRecDepth 100000 in
theorem packFits_7 (B : Nat) (W : World) (u x lv : Int) (s : ByteArray) (n c : Nat) (A : Option Addr) (f : Nat → PT) (h : TR W B (.mk 7 u s x n f) A c) (hB : B ≤ W.heap.size) (hl : 0 < lv) (hl2 : lv ≤ 100)
    (ih : ∀ (i : Nat) (W3 : World) (Ai : Option Addr) (ci : Nat), TR W3 B (f i) Ai ci → B ≤ W3.heap.size → Calls Tryd.prog 42 #[vP (f i) Ai ci, .int .i64 (lv - 1)] W3 (PFit (f i) (lv - 1) W3)) :
    Calls Tryd.prog 42 #[.agg #[.int .i64 7, .int .u64 u, .string s, .int .i64 x, .slice A n c], .int .i64 lv] W (PFit (.mk 7 u s x n f) lv W) := by
  obtain ⟨hwf, hnc, hcm, hkids⟩ := h.open_
  obtain ⟨_, _, hu0, hu1, hx0, hx1, hss⟩ := hwf
  simp only [PT.n, PT.u, PT.x, PT.s] at hnc hu0 hu1 hx0 hx1 hss
  have hmx : n ≤ 9223372036854775807 := by simp only [maxLen] at hcm; omega
  have hsx : s.size ≤ 9223372036854775807 := by simp only [maxLen] at hss; omega
  have hld : decide (lv ≤ 0) = false := decide_eq_false (by omega)
  have HIH := Lib.hid ih
  have HKIDS := Lib.hid hkids
  clear ih h hkids hss hcm
  go_enter Tryd.func42, Tryd.ntmps42
  go_wp2
  all_goals
    first
      | (go_ret
         exact ⟨false, rfl, (by intro h; cases h), (Below.refl _ _).alloc (Nat.le_refl _) _⟩)
      | skip
  have hok : PT.ok (.mk 7 u s x n f) lv := by
    unfold PT.ok
    simp only [PT.n, PT.u, PT.x, PT.s, PT.k]
    refine ⟨hl, by omega, by omega, ?_, ?_, ?_, ?_, by omega, by omega, ?_, ?_, ?_, by omega, by omega⟩
    all_goals first | (intros; omega) | (intros; exact empty_of_list (by assumption)) | (intros; exfalso; omega)
  have HOK := Lib.hid hok
  clear hok
  go_loopw [145] (fun i wr => ∃ m : Nat, m ≤ n ∧ i = .int .i64 m ∧ Hid ((∀ i, i < m → Fits (f i) (lv - 1)) ∧ Below W.heap.size W wr)) (fun i _ => n - (intOf i).toNat)
  case atStart => exact ⟨0, Nat.zero_le _, rfl, (fun i hi => absurd hi (Nat.not_lt_zero i)), (Below.refl _ _).alloc (Nat.le_refl _) _⟩
  case round =>
    obtain ⟨m, hm, rfl, hrest⟩ := hrel
    have HF := Lib.hid hrest.out.1
    have HBW := Lib.hid hrest.out.2
    clear hrest
    by_cases hlt : m < n
    · exact absurd hlt (by omega)
    · obtain rfl : m = n := by omega
      go_wp2
      go_ret
      exact ⟨true, rfl, fun _ => ⟨HOK.out, HF.out⟩, HBW.out⟩

set_option maxHeartbeats 8000000 in
set_option maxRecDepth 100000 in
theorem packFits_8 (B : Nat) (W : World) (u x lv : Int) (s : ByteArray) (n c : Nat) (A : Option Addr) (f : Nat → PT) (h : TR W B (.mk 8 u s x n f) A c) (hB : B ≤ W.heap.size) (hl : 0 < lv) (hl2 : lv ≤ 100)
    (ih : ∀ (i : Nat) (W3 : World) (Ai : Option Addr) (ci : Nat), TR W3 B (f i) Ai ci → B ≤ W3.heap.size → Calls Tryd.prog 42 #[vP (f i) Ai ci, .int .i64 (lv - 1)] W3 (PFit (f i) (lv - 1) W3)) :
    Calls Tryd.prog 42 #[.agg #[.int .i64 8, .int .u64 u, .string s, .int .i64 x, .slice A n c], .int .i64 lv] W (PFit (.mk 8 u s x n f) lv W) := by
  obtain ⟨hwf, hnc, hcm, hkids⟩ := h.open_
  obtain ⟨_, _, hu0, hu1, hx0, hx1, hss⟩ := hwf
  simp only [PT.n, PT.u, PT.x, PT.s] at hnc hu0 hu1 hx0 hx1 hss
  have hmx : n ≤ 9223372036854775807 := by simp only [maxLen] at hcm; omega
  have hsx : s.size ≤ 9223372036854775807 := by simp only [maxLen] at hss; omega
  have hld : decide (lv ≤ 0) = false := decide_eq_false (by omega)
  have HIH := Lib.hid ih
  have HKIDS := Lib.hid hkids
  clear ih h hkids hss hcm
  go_enter Tryd.func42, Tryd.ntmps42
  go_wp2
  all_goals
    first
      | (go_ret
         exact ⟨false, rfl, (by intro h; cases h), (Below.refl _ _).alloc (Nat.le_refl _) _⟩)
      | skip
  have hok : PT.ok (.mk 8 u s x n f) lv := by
    unfold PT.ok
    simp only [PT.n, PT.u, PT.x, PT.s, PT.k]
    refine ⟨hl, by omega, by omega, ?_, ?_, ?_, ?_, by omega, by omega, ?_, ?_, ?_, by omega, by omega⟩
    all_goals first | (intros; omega) | (intros; exact empty_of_list (by assumption)) | (intros; exfalso; omega)
  have HOK := Lib.hid hok
  clear hok
  go_loopw [145] (fun i wr => ∃ m : Nat, m ≤ n ∧ i = .int .i64 m ∧ Hid ((∀ i, i < m → Fits (f i) (lv - 1)) ∧ Below W.heap.size W wr)) (fun i _ => n - (intOf i).toNat)
  case atStart => exact ⟨0, Nat.zero_le _, rfl, (fun i hi => absurd hi (Nat.not_lt_zero i)), (Below.refl _ _).alloc (Nat.le_refl _) _⟩
  case round =>
    obtain ⟨m, hm, rfl, hrest⟩ := hrel
    have HF := Lib.hid hrest.out.1
    have HBW := Lib.hid hrest.out.2
    clear hrest
    by_cases hlt : m < n
    · obtain ⟨g, o, hA, hgB, hk⟩ := HKIDS.out (show 0 < n by omega)
      obtain ⟨Ai, ci, c0, c1, c2, c3, c4, htk⟩ := hk m hlt
      have hce : ∀ q, wr.cell? ⟨g, q, none⟩ = W.cell? ⟨g, q, none⟩ := fun q => HBW.out.cell (p := ⟨g, q, none⟩) (Nat.lt_of_lt_of_le hgB hB)
      have d0 := (hce _).trans c0
      have d1 := (hce _).trans c1
      have d2 := (hce _).trans c2
      have d3 := (hce _).trans c3
      have d4 := (hce _).trans c4
      have hwz : W.heap.size ≤ wr.heap.size := HBW.out.size
      have hcall := fun W3 h3 h4 => HIH.out m W3 Ai ci (TR.below (HBW.out.trans h3 |>.mono hB) _ _ _ htk) h4
      unfold vP at hcall
      simp only [PT.kid] at d0 d1 d2 d3 d4
      subst hA
      have HC := Lib.hid hcall
      have HFM : Hid (∀ T, T = f m → Fits T (lv - 1) → ∀ i, i < m + 1 → Fits (f i) (lv - 1)) := fun T hT hf i hi => by
        by_cases e : i = m
        · subst e; rw [← hT]; exact hf
        · exact HF.out i (by omega)
      obtain ⟨T, hT⟩ : ∃ T, T = f m := ⟨_, rfl⟩
      rw [← hT] at d0 d1 d2 d3 d4 HC
      have HT := Lib.hid hT
      clear hk c0 c1 c2 c3 c4 htk hce hcall hT
      go_wp2_with (
        (go_at_call 42)
        go_must (
          (refine (HC.out _ ((Below.refl _ wr).alloc hwz _) (by simp; omega)).mono ?_)
          rintro e w3 ⟨b, rfl, hf3, hb3⟩
          have HB3 : Hid (Below W.heap.size W w3) := (HBW.out.alloc hwz _).trans (hb3.mono (by simp; omega))
          have HF3 := Lib.hid hf3
          clear hb3 hf3))
      · go_ret
        exact ⟨false, rfl, (by intro h; cases h), HB3.out⟩
      · have hbt : (!b) = false := by assumption
        have hf := HFM.out T HT.out (HF3.out (by simpa using hbt))
        have HFF := Lib.hid hf
        clear hf
        go_wp2
        go_roundw
        case rel => exact ⟨m + 1, by omega, by go_num, HFF.out, HB3.out⟩
        case measure => simp [intOf]; omega
    · obtain rfl : m = n := by omega
      go_wp2
      go_ret
      exact ⟨true, rfl, fun _ => ⟨HOK.out, HF.out⟩, HBW.out⟩

set_option maxHeartbeats 8000000 in
set_option maxRecDepth 100000 in
theorem packFits_9 (B : Nat) (W : World) (u x lv : Int) (s : ByteArray) (n c : Nat) (A : Option Addr) (f : Nat → PT) (h : TR W B (.mk 9 u s x n f) A c) (hB : B ≤ W.heap.size) (hl : 0 < lv) (hl2 : lv ≤ 100)
    (ih : ∀ (i : Nat) (W3 : World) (Ai : Option Addr) (ci : Nat), TR W3 B (f i) Ai ci → B ≤ W3.heap.size → Calls Tryd.prog 42 #[vP (f i) Ai ci, .int .i64 (lv - 1)] W3 (PFit (f i) (lv - 1) W3)) :
    Calls Tryd.prog 42 #[.agg #[.int .i64 9, .int .u64 u, .string s, .int .i64 x, .slice A n c], .int .i64 lv] W (PFit (.mk 9 u s x n f) lv W) := by
  obtain ⟨hwf, hnc, hcm, hkids⟩ := h.open_
  obtain ⟨_, _, hu0, hu1, hx0, hx1, hss⟩ := hwf
  simp only [PT.n, PT.u, PT.x, PT.s] at hnc hu0 hu1 hx0 hx1 hss
  have hmx : n ≤ 9223372036854775807 := by simp only [maxLen] at hcm; omega
  have hsx : s.size ≤ 9223372036854775807 := by simp only [maxLen] at hss; omega
  have hld : decide (lv ≤ 0) = false := decide_eq_false (by omega)
  have HIH := Lib.hid ih
  have HKIDS := Lib.hid hkids
  clear ih h hkids hss hcm
  go_enter Tryd.func42, Tryd.ntmps42
  go_wp2
  all_goals
    first
      | (go_ret
         exact ⟨false, rfl, (by intro h; cases h), (Below.refl _ _).alloc (Nat.le_refl _) _⟩)
      | skip
  have hok : PT.ok (.mk 9 u s x n f) lv := by
    unfold PT.ok
    simp only [PT.n, PT.u, PT.x, PT.s, PT.k]
    refine ⟨hl, by omega, by omega, ?_, ?_, ?_, ?_, by omega, by omega, ?_, ?_, ?_, by omega, by omega⟩
    all_goals first | (intros; omega) | (intros; exact empty_of_list (by assumption)) | (intros; exfalso; omega)
  have HOK := Lib.hid hok
  clear hok
  go_loopw [145] (fun i wr => ∃ m : Nat, m ≤ n ∧ i = .int .i64 m ∧ Hid ((∀ i, i < m → Fits (f i) (lv - 1)) ∧ Below W.heap.size W wr)) (fun i _ => n - (intOf i).toNat)
  case atStart => exact ⟨0, Nat.zero_le _, rfl, (fun i hi => absurd hi (Nat.not_lt_zero i)), (Below.refl _ _).alloc (Nat.le_refl _) _⟩
  case round =>
    obtain ⟨m, hm, rfl, hrest⟩ := hrel
    have HF := Lib.hid hrest.out.1
    have HBW := Lib.hid hrest.out.2
    clear hrest
    by_cases hlt : m < n
    · obtain ⟨g, o, hA, hgB, hk⟩ := HKIDS.out (show 0 < n by omega)
      obtain ⟨Ai, ci, c0, c1, c2, c3, c4, htk⟩ := hk m hlt
      have hce : ∀ q, wr.cell? ⟨g, q, none⟩ = W.cell? ⟨g, q, none⟩ := fun q => HBW.out.cell (p := ⟨g, q, none⟩) (Nat.lt_of_lt_of_le hgB hB)
      have d0 := (hce _).trans c0
      have d1 := (hce _).trans c1
      have d2 := (hce _).trans c2
      have d3 := (hce _).trans c3
      have d4 := (hce _).trans c4
      have hwz : W.heap.size ≤ wr.heap.size := HBW.out.size
      have hcall := fun W3 h3 h4 => HIH.out m W3 Ai ci (TR.below (HBW.out.trans h3 |>.mono hB) _ _ _ htk) h4
      unfold vP at hcall
      simp only [PT.kid] at d0 d1 d2 d3 d4
      subst hA
      have HC := Lib.hid hcall
      have HFM : Hid (∀ T, T = f m → Fits T (lv - 1) → ∀ i, i < m + 1 → Fits (f i) (lv - 1)) := fun T hT hf i hi => by
        by_cases e : i = m
        · subst e; rw [← hT]; exact hf
        · exact HF.out i (by omega)
      obtain ⟨T, hT⟩ : ∃ T, T = f m := ⟨_, rfl⟩
      rw [← hT] at d0 d1 d2 d3 d4 HC
      have HT := Lib.hid hT
      clear hk c0 c1 c2 c3 c4 htk hce hcall hT
      go_wp2_with (
        (go_at_call 42)
        go_must (
          (refine (HC.out _ ((Below.refl _ wr).alloc hwz _) (by simp; omega)).mono ?_)
          rintro e w3 ⟨b, rfl, hf3, hb3⟩
          have HB3 : Hid (Below W.heap.size W w3) := (HBW.out.alloc hwz _).trans (hb3.mono (by simp; omega))
          have HF3 := Lib.hid hf3
          clear hb3 hf3))
      · go_ret
        exact ⟨false, rfl, (by intro h; cases h), HB3.out⟩
      · have hbt : (!b) = false := by assumption
        have hf := HFM.out T HT.out (HF3.out (by simpa using hbt))
        have HFF := Lib.hid hf
        clear hf
        go_wp2
        go_roundw
        case rel => exact ⟨m + 1, by omega, by go_num, HFF.out, HB3.out⟩
        case measure => simp [intOf]; omega
    · obtain rfl : m = n := by omega
      go_wp2
      go_ret
      exact ⟨true, rfl, fun _ => ⟨HOK.out, HF.out⟩, HBW.out⟩

set_option maxHeartbeats 8000000 in
set_option maxRecDepth 100000 in
theorem packFits_10 (B : Nat) (W : World) (u x lv : Int) (s : ByteArray) (n c : Nat) (A : Option Addr) (f : Nat → PT) (h : TR W B (.mk 10 u s x n f) A c) (hB : B ≤ W.heap.size) (hl : 0 < lv) (hl2 : lv ≤ 100)
    (ih : ∀ (i : Nat) (W3 : World) (Ai : Option Addr) (ci : Nat), TR W3 B (f i) Ai ci → B ≤ W3.heap.size → Calls Tryd.prog 42 #[vP (f i) Ai ci, .int .i64 (lv - 1)] W3 (PFit (f i) (lv - 1) W3)) :
    Calls Tryd.prog 42 #[.agg #[.int .i64 10, .int .u64 u, .string s, .int .i64 x, .slice A n c], .int .i64 lv] W (PFit (.mk 10 u s x n f) lv W) := by
  obtain ⟨hwf, hnc, hcm, hkids⟩ := h.open_
  obtain ⟨_, _, hu0, hu1, hx0, hx1, hss⟩ := hwf
  simp only [PT.n, PT.u, PT.x, PT.s] at hnc hu0 hu1 hx0 hx1 hss
  have hmx : n ≤ 9223372036854775807 := by simp only [maxLen] at hcm; omega
  have hsx : s.size ≤ 9223372036854775807 := by simp only [maxLen] at hss; omega
  have hld : decide (lv ≤ 0) = false := decide_eq_false (by omega)
  have HIH := Lib.hid ih
  have HKIDS := Lib.hid hkids
  clear ih h hkids hss hcm
  go_enter Tryd.func42, Tryd.ntmps42
  go_wp2
  all_goals
    first
      | (go_ret
         exact ⟨false, rfl, (by intro h; cases h), (Below.refl _ _).alloc (Nat.le_refl _) _⟩)
      | skip
  have hok : PT.ok (.mk 10 u s x n f) lv := by
    unfold PT.ok
    simp only [PT.n, PT.u, PT.x, PT.s, PT.k]
    refine ⟨hl, by omega, by omega, ?_, ?_, ?_, ?_, by omega, by omega, ?_, ?_, ?_, by omega, by omega⟩
    all_goals first | (intros; omega) | (intros; exact empty_of_list (by assumption)) | (intros; exfalso; omega)
  have HOK := Lib.hid hok
  clear hok
  go_loopw [145] (fun i wr => ∃ m : Nat, m ≤ n ∧ i = .int .i64 m ∧ Hid ((∀ i, i < m → Fits (f i) (lv - 1)) ∧ Below W.heap.size W wr)) (fun i _ => n - (intOf i).toNat)
  case atStart => exact ⟨0, Nat.zero_le _, rfl, (fun i hi => absurd hi (Nat.not_lt_zero i)), (Below.refl _ _).alloc (Nat.le_refl _) _⟩
  case round =>
    obtain ⟨m, hm, rfl, hrest⟩ := hrel
    have HF := Lib.hid hrest.out.1
    have HBW := Lib.hid hrest.out.2
    clear hrest
    by_cases hlt : m < n
    · exact absurd hlt (by omega)
    · obtain rfl : m = n := by omega
      go_wp2
      go_ret
      exact ⟨true, rfl, fun _ => ⟨HOK.out, HF.out⟩, HBW.out⟩

theorem packFits_calls (B : Nat) : ∀ (T : PT) (W : World) (A : Option Addr) (c : Nat) (lv : Int), TR W B T A c → B ≤ W.heap.size → lv ≤ 100 →
    Calls Tryd.prog 42 #[vP T A c, .int .i64 lv] W (PFit T lv W)
  | .nil, W, A, c, lv, h, hB, hl2 => h.elim
  | .mk k u s x n f, W, A, c, lv, h, hB, hl2 => by
    have ih := fun i W3 Ai ci h3 h4 => packFits_calls B (f i) W3 Ai ci (lv - 1) h3 h4 (by omega)
    unfold vP
    simp only [PT.k, PT.u, PT.s, PT.x, PT.n]
    by_cases hl : 0 < lv
    · by_cases hk : k < 0 ∨ 10 < k
      · exact (packFits_out W k u x lv s n c A hl hk).mono fun _ _ ⟨he, hb⟩ => ⟨false, he, (by intro h; cases h), hb⟩
      · have hkc : k = 0 ∨ k = 1 ∨ k = 2 ∨ k = 3 ∨ k = 4 ∨ k = 5 ∨ k = 6 ∨ k = 7 ∨ k = 8 ∨ k = 9 ∨ k = 10 := by omega
        rcases hkc with rfl | rfl | rfl | rfl | rfl | rfl | rfl | rfl | rfl | rfl | rfl
        · exact packFits_0 B W u x lv s n c A f h hB hl hl2 ih
        · exact packFits_1 B W u x lv s n c A f h hB hl hl2 ih
        · exact packFits_2 B W u x lv s n c A f h hB hl hl2 ih
        · exact packFits_3 B W u x lv s n c A f h hB hl hl2 ih
        · exact packFits_4 B W u x lv s n c A f h hB hl hl2 ih
        · exact packFits_5 B W u x lv s n c A f h hB hl hl2 ih
        · exact packFits_6 B W u x lv s n c A f h hB hl hl2 ih
        · exact packFits_7 B W u x lv s n c A f h hB hl hl2 ih
        · exact packFits_8 B W u x lv s n c A f h hB hl hl2 ih
        · exact packFits_9 B W u x lv s n c A f h hB hl hl2 ih
        · exact packFits_10 B W u x lv s n c A f h hB hl hl2 ih
    · exact (packFits_low W k u x lv s n c A (by omega)).mono fun _ _ ⟨he, hb⟩ => ⟨false, he, (by intro h; cases h), hb⟩
end Go.Proofs.YtlpnaifagiddlaaDoor
