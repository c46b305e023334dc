/- GetDuration, GetInt16 and FitsInt at what PutPack writes. PRINTED by wip/genpz.py. -/
import Derived.Test.YtlpnaifagiddlaaDoorPy
namespace Go.Proofs.YtlpnaifagiddlaaDoor
open Go.RowKit
set_option linter.unusedVariables false

/-- The value is an integer that an int64 of these bounds holds. -/
def FitI (lo hi : Int) (T : PT) : Prop := (T.k = 2 ∨ (T.k = 3 ∧ T.u ≤ 9223372036854775807)) ∧ lo ≤ wrap64 T.u ∧ wrap64 T.u ≤ hi
theorem wrap_i64 (u : Int) : IntKind.i64.wrap u = wrap64 u := by
  simp [IntKind.wrap, IntKind.bits, IntKind.signed, wrap64]
  split <;> omega
theorem FP_int {T : PT} {enc : List Int} (hf : FP T enc) (h : T.k = 2 ∨ (T.k = 3 ∧ T.u ≤ 9223372036854775807)) (hu : 0 ≤ T.u) : IntF (wrap64 T.u) enc := by
  obtain ⟨⟨a0, a1, a2, a3, a4, a5, a6, a7⟩, hx1, hx2⟩ := hf
  rcases h with h | ⟨h, hm⟩
  · exact a2 h
  · have e : wrap64 T.u = T.u := by unfold wrap64; omega
    rw [e]
    exact a3 h
theorem R64_fit (W : World) (B c : Nat) (A : Option Addr) (T : PT) (enc tot : List Int) (hf : FP T enc) (hk : T.k = 2 ∨ (T.k = 3 ∧ T.u ≤ 9223372036854775807)) (hu : 0 ≤ T.u) (h : Reads W B 1 A (enc ++ tot).length (bs (enc ++ tot))) (hmc : (enc ++ tot).length ≤ c) (hcm : c ≤ maxLen) (hB : B ≤ W.heap.size) :
    Calls Tryd.prog 52 #[.slice A (enc ++ tot).length c] W (RB .i64 (wrap64 T.u) tot B W) :=
  RI_in W B c A _ enc (FP_int hf hk hu) (by unfold wrap64; omega) tot h hmc hcm hB
theorem R64_unfit (W : World) (B c : Nat) (A : Option Addr) (T : PT) (enc tot : List Int) (hf : FP T enc) (hfit : Fits T 6) (hwf : T.wf) (hk : ¬ (T.k = 2 ∨ (T.k = 3 ∧ T.u ≤ 9223372036854775807))) (h : Reads W B 1 A (enc ++ tot).length (bs (enc ++ tot))) (hmc : (enc ++ tot).length ≤ c) (hcm : c ≤ maxLen) (hB : B ≤ W.heap.size) :
    Calls Tryd.prog 52 #[.slice A (enc ++ tot).length c] W (RE .i64 W) := by
  obtain ⟨_, _, hu0, hu1, _⟩ := hwf
  by_cases h3 : T.k = 3
  · exact RI_over W B c A T.u enc (hf.1.2.2.2.1 h3) (by omega) (by omega) tot h hmc hcm hB
  have hok : T.ok 6 := by cases T with | nil => exact hfit.elim | mk => exact hfit.1
  obtain ⟨_, k0, k10, _, _, _, _, _, _, k1, _⟩ := hok
  obtain ⟨b, r, rfl, b0, b1, b2⟩ := FP_other hf k0 k10 hu0 k1 (by omega) h3
  exact RI_other W B c A b (r ++ tot) b0 b1 b2 h hmc hcm hB
theorem R64_cut (W : World) (B c : Nat) (A : Option Addr) (T : PT) (enc : List Int) (hf : FP T enc) (hfit : Fits T 6) (hwf : T.wf) (m : Nat) (hm : m < enc.length) (h : Reads W B 1 A m (bs (enc.take m))) (hmc : m ≤ c) (hcm : c ≤ maxLen) (hB : B ≤ W.heap.size)
    (ts : TypeId) (vs : Value) (hsh : W.cell? ⟨1, 0, none⟩ = some (.iface ts vs)) :
    Calls Tryd.prog 52 #[.slice A m c] W (RE .i64 W) := by
  obtain ⟨_, _, hu0, hu1, _⟩ := hwf
  by_cases h2 : T.k = 2
  · exact RI_cut W B c A _ enc (hf.1.2.2.1 h2) m hm h hmc hcm hB ts vs hsh
  by_cases h3 : T.k = 3
  · exact RI_cut W B c A _ enc (hf.1.2.2.2.1 h3) m hm h hmc hcm hB ts vs hsh
  by_cases hz : m = 0
  · subst hz
    exact ReadInt64Bytes_none W c A ts vs hsh
  have hok : T.ok 6 := by cases T with | nil => exact hfit.elim | mk => exact hfit.1
  obtain ⟨_, k0, k10, _, _, _, _, _, _, k1, _⟩ := hok
  obtain ⟨b, r, rfl, b0, b1, b2⟩ := FP_other hf k0 k10 hu0 k1 h2 h3
  obtain ⟨k, rfl⟩ : ∃ k, m = k + 1 := ⟨m - 1, by omega⟩
  have hk : (b :: r.take k).length = k + 1 := by simp only [List.length_cons, List.length_take] at hm ⊢; omega
  have h' : Reads W B 1 A (b :: r.take k).length (bs (b :: r.take k)) := by rw [hk]; simpa only [List.take_succ_cons] using h
  have ho := RI_other W B c A b (r.take k) b0 b1 b2 h' (by rw [hk]; exact hmc) hcm hB
  rw [hk] at ho
  exact ho

/-- GD of what is whole. -/
theorem GD_whole (W : World) (c : Nat) (A : Option Addr) (T : PT) (enc tot : List Int) (hf : FP T enc) (hfit : Fits T 6) (hwf : T.wf) (ht : tot.length ≤ 100) (h : Reads W W.heap.size 1 A (enc ++ tot).length (bs (enc ++ tot))) (hmc : (enc ++ tot).length ≤ c) (hcm : c ≤ maxLen) :
    Calls Tryd.prog 18 #[.slice A (enc ++ tot).length c] W (fun e w' => (FitI (-9223372036854775808) 9223372036854775807 T → GB .i64 (wrap64 T.u) tot W e w') ∧ (¬ FitI (-9223372036854775808) 9223372036854775807 T → GE .i64 W e w')) := by
  by_cases hk : T.k = 2 ∨ (T.k = 3 ∧ T.u ≤ 9223372036854775807)
  · have r64 := R64_fit W W.heap.size c A T enc tot hf hk hwf.2.2.1 h hmc hcm (Nat.le_refl _)
    have hr : -9223372036854775808 ≤ wrap64 T.u ∧ wrap64 T.u ≤ 9223372036854775807 := by unfold wrap64; omega
    exact (GD_ok W _ c A _ tot W.heap.size (Nat.le_refl _) ht (RD_ok W _ c A _ tot _ r64)).mono fun e w' he => ⟨fun _ => he, fun hh => absurd ⟨hk, hr.1, hr.2⟩ hh⟩
  · have r64 := R64_unfit W W.heap.size c A T enc tot hf hfit hwf hk h hmc hcm (Nat.le_refl _)
    exact (GD_no W _ c A (RD_no W _ c A r64)).mono fun e w' he => ⟨fun hh => absurd hh.1 hk, fun _ => he⟩
/-- GD of what is cut off. -/
theorem GD_cut (W : World) (c : Nat) (A : Option Addr) (T : PT) (enc : List Int) (hf : FP T enc) (hfit : Fits T 6) (hwf : T.wf) (m : Nat) (hm : m < enc.length) (h : Reads W W.heap.size 1 A m (bs (enc.take m))) (hmc : m ≤ c) (hcm : c ≤ maxLen)
    (ts : TypeId) (vs : Value) (hsh : W.cell? ⟨1, 0, none⟩ = some (.iface ts vs)) :
    Calls Tryd.prog 18 #[.slice A m c] W (GE .i64 W) :=
  GD_no W _ c A (RD_no W _ c A (R64_cut W W.heap.size c A T enc hf hfit hwf m hm h hmc hcm (Nat.le_refl _) ts vs hsh))

/-- G16 of what is whole. -/
theorem G16_whole (W : World) (c : Nat) (A : Option Addr) (T : PT) (enc tot : List Int) (hf : FP T enc) (hfit : Fits T 6) (hwf : T.wf) (ht : tot.length ≤ 100) (h : Reads W W.heap.size 1 A (enc ++ tot).length (bs (enc ++ tot))) (hmc : (enc ++ tot).length ≤ c) (hcm : c ≤ maxLen) :
    Calls Tryd.prog 20 #[.slice A (enc ++ tot).length c] W (fun e w' => (FitI (-32768) 32767 T → GB .i16 (wrap64 T.u) tot W e w') ∧ (¬ FitI (-32768) 32767 T → GE .i16 W e w')) := by
  by_cases hk : T.k = 2 ∨ (T.k = 3 ∧ T.u ≤ 9223372036854775807)
  · have r64 := R64_fit W W.heap.size c A T enc tot hf hk hwf.2.2.1 h hmc hcm (Nat.le_refl _)
    by_cases hr : -32768 ≤ wrap64 T.u ∧ wrap64 T.u ≤ 32767
    · exact (G16_ok W _ c A _ tot W.heap.size (Nat.le_refl _) ht (R16_ok W _ c A _ tot _ hr.1 hr.2 r64)).mono fun e w' he => ⟨fun _ => he, fun hh => absurd ⟨hk, hr.1, hr.2⟩ hh⟩
    · exact (G16_no W _ c A (R16_big W _ c A _ tot _ (by omega) r64)).mono fun e w' he => ⟨fun hh => absurd hh.2 hr, fun _ => he⟩
  · have r64 := R64_unfit W W.heap.size c A T enc tot hf hfit hwf hk h hmc hcm (Nat.le_refl _)
    exact (G16_no W _ c A (R16_no W _ c A r64)).mono fun e w' he => ⟨fun hh => absurd hh.1 hk, fun _ => he⟩
/-- G16 of what is cut off. -/
theorem G16_cut (W : World) (c : Nat) (A : Option Addr) (T : PT) (enc : List Int) (hf : FP T enc) (hfit : Fits T 6) (hwf : T.wf) (m : Nat) (hm : m < enc.length) (h : Reads W W.heap.size 1 A m (bs (enc.take m))) (hmc : m ≤ c) (hcm : c ≤ maxLen)
    (ts : TypeId) (vs : Value) (hsh : W.cell? ⟨1, 0, none⟩ = some (.iface ts vs)) :
    Calls Tryd.prog 20 #[.slice A m c] W (GE .i16 W) :=
  G16_no W _ c A (R16_no W _ c A (R64_cut W W.heap.size c A T enc hf hfit hwf m hm h hmc hcm (Nat.le_refl _) ts vs hsh))

/-- FitsInt of a value. -/
theorem FI64_calls (W : World) (T : PT) (A : Option Addr) (c : Nat) (hwf : T.wf) : Calls Tryd.prog 19 #[vP T A c, .int .i64 64] W fun e w' => ∃ b : Bool, e = .returned (.bool b) ∧ (b = true ↔ FitI (-9223372036854775808) 9223372036854775807 T) ∧ Below W.heap.size W w' := by
  obtain ⟨_, _, hu0, hu1, _⟩ := hwf
  have hr : -9223372036854775808 ≤ wrap64 T.u ∧ wrap64 T.u ≤ 9223372036854775807 := by unfold wrap64; omega
  unfold vP
  by_cases h2 : T.k = 2
  · have := FI_yes2_64 W 2 T.u T.x T.s A T.n c (wrap64 T.u) (wrap_i64 _) hr.1 hr.2
    rw [h2]
    exact this.mono fun e w' ⟨he, hb⟩ => ⟨true, he, by simp [FitI, h2, hr], hb⟩
  by_cases h3 : T.k = 3
  · rw [h3]
    by_cases hb : T.u ≤ 9223372036854775807
    · have := FI_yes3_64 W 3 T.u T.x T.s A T.n c (wrap64 T.u) (wrap_i64 _) hr.1 hr.2 (by unfold wrap64; omega)
      exact this.mono fun e w' ⟨he, hbl⟩ => ⟨true, he, by simp [FitI, h3, hr, hb], hbl⟩
    · have := FI_big64 W 3 T.u T.x T.s A T.n c (by omega) (by omega)
      exact this.mono fun e w' ⟨he, hbl⟩ => ⟨false, he, by simp [FitI, h3, hb], hbl⟩
  · have := FI_no64 W T.k T.u T.x T.s A T.n c h2 h3
    exact this.mono fun e w' ⟨he, hbl⟩ => ⟨false, he, by simp [FitI, h2, h3], hbl⟩
theorem FI16_calls (W : World) (T : PT) (A : Option Addr) (c : Nat) (hwf : T.wf) : Calls Tryd.prog 19 #[vP T A c, .int .i64 16] W fun e w' => ∃ b : Bool, e = .returned (.bool b) ∧ (b = true ↔ FitI (-32768) 32767 T) ∧ Below W.heap.size W w' := by
  obtain ⟨_, _, hu0, hu1, _⟩ := hwf
  have hr : -9223372036854775808 ≤ wrap64 T.u ∧ wrap64 T.u ≤ 9223372036854775807 := by unfold wrap64; omega
  unfold vP
  by_cases h2 : T.k = 2
  · rw [h2]
    by_cases hb : -32768 ≤ wrap64 T.u ∧ wrap64 T.u ≤ 32767
    · have := FI_yes2_16 W 2 T.u T.x T.s A T.n c (wrap64 T.u) (wrap_i64 _) hr.1 hr.2 hb.1 hb.2
      exact this.mono fun e w' ⟨he, hbl⟩ => ⟨true, he, by simp [FitI, h2, hb], hbl⟩
    · have := FI_out2_16 W 2 T.u T.x T.s A T.n c (wrap64 T.u) (wrap_i64 _) hr.1 hr.2 (by omega)
      exact this.mono fun e w' ⟨he, hbl⟩ => ⟨false, he, ⟨(by intro hh; cases hh), fun hh => absurd hh.2 hb⟩, hbl⟩
  by_cases h3 : T.k = 3
  · rw [h3]
    by_cases hb : T.u ≤ 9223372036854775807
    · have hw0 : 0 ≤ wrap64 T.u := by unfold wrap64; omega
      by_cases hc : -32768 ≤ wrap64 T.u ∧ wrap64 T.u ≤ 32767
      · have := FI_yes3_16 W 3 T.u T.x T.s A T.n c (wrap64 T.u) (wrap_i64 _) hr.1 hr.2 hw0 hc.1 hc.2
        exact this.mono fun e w' ⟨he, hbl⟩ => ⟨true, he, by simp [FitI, h3, hc, hb], hbl⟩
      · have := FI_out3_16 W 3 T.u T.x T.s A T.n c (wrap64 T.u) (wrap_i64 _) hr.1 hr.2 hw0 (by omega)
        exact this.mono fun e w' ⟨he, hbl⟩ => ⟨false, he, ⟨(by intro hh; cases hh), fun hh => absurd hh.2 hc⟩, hbl⟩
    · have := FI_big16 W 3 T.u T.x T.s A T.n c (by omega) (by omega)
      exact this.mono fun e w' ⟨he, hbl⟩ => ⟨false, he, by simp [FitI, h3, hb], hbl⟩
  · have := FI_no16 W T.k T.u T.x T.s A T.n c h2 h3
    exact this.mono fun e w' ⟨he, hbl⟩ => ⟨false, he, by simp [FitI, h2, h3], hbl⟩
end Go.Proofs.YtlpnaifagiddlaaDoor
