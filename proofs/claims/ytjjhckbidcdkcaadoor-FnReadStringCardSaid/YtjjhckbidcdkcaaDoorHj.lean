/- spec.fixedSize: its region as a whole, and its contract. PRINTED by wip/genhi.py. · spec.fixedSize: its region drawn, and its contract. PRINTED by wip/genhj.py. -/
import Derived.Test.YtjjhckbidcdkcaaDoorHg
import Derived.Deep.DeepMust
namespace Go.Proofs.YtjjhckbidcdkcaaDoor
open Go.RowKit Go.Maps
set_option linter.unusedVariables false

theorem split24 {P : Nat → Prop} (h0 : P 0) (h1 : P 1) (h2 : P 2) (h3 : P 3) (h4 : P 4) (h5 : P 5) (h6 : P 6) (h7 : P 7) (h8 : P 8) (h9 : P 9) (h10 : P 10) (h11 : P 11) (h12 : P 12) (h13 : P 13) (h14 : P 14) (h15 : P 15) (h16 : P 16) (h17 : P 17) (h18 : P 18) (h19 : P 19) (h20 : P 20) (h21 : P 21) (h22 : P 22) (h23 : P 23) : ∀ i, i < 24 → P i
  | 0, _ => h0
  | 1, _ => h1
  | 2, _ => h2
  | 3, _ => h3
  | 4, _ => h4
  | 5, _ => h5
  | 6, _ => h6
  | 7, _ => h7
  | 8, _ => h8
  | 9, _ => h9
  | 10, _ => h10
  | 11, _ => h11
  | 12, _ => h12
  | 13, _ => h13
  | 14, _ => h14
  | 15, _ => h15
  | 16, _ => h16
  | 17, _ => h17
  | 18, _ => h18
  | 19, _ => h19
  | 20, _ => h20
  | 21, _ => h21
  | 22, _ => h22
  | 23, _ => h23
  | n + 24, h => absurd h (by omega)
/-- The operations of the region. -/
def FsOps (ops : Array Oper) : Prop := (∃ o, ops[0]? = some o ∧ o.guard = none ∧ o.op = .makeMap 158 none ∧ o.dst = some 3) ∧
  (∃ o, ops[1]? = some o ∧ o.guard = none ∧ o.op = .insert 158 (.tmp 3) (.const (.int .i64 2)) (.const (.int .i64 1)) ∧ o.dst = none) ∧
  (∃ o, ops[2]? = some o ∧ o.guard = none ∧ o.op = .insert 158 (.tmp 3) (.const (.int .i64 6)) (.const (.int .i64 1)) ∧ o.dst = none) ∧
  (∃ o, ops[3]? = some o ∧ o.guard = none ∧ o.op = .insert 158 (.tmp 3) (.const (.int .i64 3)) (.const (.int .i64 2)) ∧ o.dst = none) ∧
  (∃ o, ops[4]? = some o ∧ o.guard = none ∧ o.op = .insert 158 (.tmp 3) (.const (.int .i64 7)) (.const (.int .i64 2)) ∧ o.dst = none) ∧
  (∃ o, ops[5]? = some o ∧ o.guard = none ∧ o.op = .insert 158 (.tmp 3) (.const (.int .i64 4)) (.const (.int .i64 4)) ∧ o.dst = none) ∧
  (∃ o, ops[6]? = some o ∧ o.guard = none ∧ o.op = .insert 158 (.tmp 3) (.const (.int .i64 8)) (.const (.int .i64 4)) ∧ o.dst = none) ∧
  (∃ o, ops[7]? = some o ∧ o.guard = none ∧ o.op = .insert 158 (.tmp 3) (.const (.int .i64 10)) (.const (.int .i64 4)) ∧ o.dst = none) ∧
  (∃ o, ops[8]? = some o ∧ o.guard = none ∧ o.op = .insert 158 (.tmp 3) (.const (.int .i64 12)) (.const (.int .i64 4)) ∧ o.dst = none) ∧
  (∃ o, ops[9]? = some o ∧ o.guard = none ∧ o.op = .insert 158 (.tmp 3) (.const (.int .i64 15)) (.const (.int .i64 4)) ∧ o.dst = none) ∧
  (∃ o, ops[10]? = some o ∧ o.guard = none ∧ o.op = .insert 158 (.tmp 3) (.const (.int .i64 5)) (.const (.int .i64 8)) ∧ o.dst = none) ∧
  (∃ o, ops[11]? = some o ∧ o.guard = none ∧ o.op = .insert 158 (.tmp 3) (.const (.int .i64 9)) (.const (.int .i64 8)) ∧ o.dst = none) ∧
  (∃ o, ops[12]? = some o ∧ o.guard = none ∧ o.op = .insert 158 (.tmp 3) (.const (.int .i64 11)) (.const (.int .i64 8)) ∧ o.dst = none) ∧
  (∃ o, ops[13]? = some o ∧ o.guard = none ∧ o.op = .insert 158 (.tmp 3) (.const (.int .i64 13)) (.const (.int .i64 8)) ∧ o.dst = none) ∧
  (∃ o, ops[14]? = some o ∧ o.guard = none ∧ o.op = .insert 158 (.tmp 3) (.const (.int .i64 16)) (.const (.int .i64 8)) ∧ o.dst = none) ∧
  (∃ o, ops[15]? = some o ∧ o.guard = none ∧ o.op = .insert 158 (.tmp 3) (.const (.int .i64 14)) (.const (.int .i64 16)) ∧ o.dst = none) ∧
  (∃ o, ops[16]? = some o ∧ o.guard = none ∧ o.op = .insert 158 (.tmp 3) (.const (.int .i64 17)) (.const (.int .i64 16)) ∧ o.dst = none) ∧
  (∃ o, ops[17]? = some o ∧ o.guard = none ∧ o.op = .move (.tmp 3) ∧ o.dst = some 4) ∧
  (∃ o, ops[18]? = some o ∧ o.guard = none ∧ o.op = .move (.tmp 0) ∧ o.dst = some 5) ∧
  (∃ o, ops[19]? = some o ∧ o.guard = none ∧ o.op = .lookup 158 (.tmp 4) (.tmp 5) false ∧ o.dst = some 6) ∧
  (∃ o, ops[20]? = some o ∧ o.guard = none ∧ o.op = .move (.tmp 0) ∧ o.dst = some 7) ∧
  (∃ o, ops[21]? = some o ∧ o.guard = none ∧ o.op = .call { callee := .value (.func 101), args := #[.tmp 7], argTypes := #[3] } ∧ o.dst = some 8) ∧
  (∃ o, ops[22]? = some o ∧ o.guard = none ∧ o.op = .binOp .sub 3 (.tmp 6) (.tmp 8) 3 ∧ o.dst = some 9) ∧
  (∃ o, ops[23]? = some o ∧ o.guard = none ∧ o.op = .assign (.tmp 9) ∧ o.dst = some 2)
theorem fs_steps (ops : Array Oper) (Q : Exit → Act → World → Prop) (w : World) (k R S : Int) (hk : -9223372036854775808 ≤ k ∧ k ≤ 9223372036854775807) (hR : look fszL k = R) (hw : IntKind.i64.wrap (R - S) = R - S) (hS : ∀ W, Calls Tryd.prog 101 #[.int .i64 k] W fun e w' => e = .returned (.int .i64 S) ∧ w' = W)
    (hd : (fsD.all fun p => hasDep ops p.1 p.2) = true)
    (hops : FsOps ops)
    (l : Array Bool) (a : Act) (w' : World) (h : FsI w k R S l a w') : ∀ i, i < 24 → i ∈ Region.ready .any ops l → wpOp Tryd.prog ops Q i (fun a' w'' => FsI w k R S (l.setIfInBounds i true) a' w'') a w' := by
  unfold FsOps at hops
  obtain ⟨h0x, h1x, h2x, h3x, h4x, h5x, h6x, h7x, h8x, h9x, h10x, h11x, h12x, h13x, h14x, h15x, h16x, h17x, h18x, h19x, h20x, h21x, h22x, h23x⟩ := hops
  exact split24 (P := fun i => i ∈ Region.ready .any ops l → wpOp Tryd.prog ops Q i (fun a' w'' => FsI w k R S (l.setIfInBounds i true) a' w'') a w')
    (fs_step0 ops Q w k R S hk hR hw hS hd h0x l a w' h)
    (fs_step1 ops Q w k R S hk hR hw hS hd h1x l a w' h)
    (fs_step2 ops Q w k R S hk hR hw hS hd h2x l a w' h)
    (fs_step3 ops Q w k R S hk hR hw hS hd h3x l a w' h)
    (fs_step4 ops Q w k R S hk hR hw hS hd h4x l a w' h)
    (fs_step5 ops Q w k R S hk hR hw hS hd h5x l a w' h)
    (fs_step6 ops Q w k R S hk hR hw hS hd h6x l a w' h)
    (fs_step7 ops Q w k R S hk hR hw hS hd h7x l a w' h)
    (fs_step8 ops Q w k R S hk hR hw hS hd h8x l a w' h)
    (fs_step9 ops Q w k R S hk hR hw hS hd h9x l a w' h)
    (fs_step10 ops Q w k R S hk hR hw hS hd h10x l a w' h)
    (fs_step11 ops Q w k R S hk hR hw hS hd h11x l a w' h)
    (fs_step12 ops Q w k R S hk hR hw hS hd h12x l a w' h)
    (fs_step13 ops Q w k R S hk hR hw hS hd h13x l a w' h)
    (fs_step14 ops Q w k R S hk hR hw hS hd h14x l a w' h)
    (fs_step15 ops Q w k R S hk hR hw hS hd h15x l a w' h)
    (fs_step16 ops Q w k R S hk hR hw hS hd h16x l a w' h)
    (fs_step17 ops Q w k R S hk hR hw hS hd h17x l a w' h)
    (fs_step18 ops Q w k R S hk hR hw hS hd h18x l a w' h)
    (fs_step19 ops Q w k R S hk hR hw hS hd h19x l a w' h)
    (fs_step20 ops Q w k R S hk hR hw hS hd h20x l a w' h)
    (fs_step21 ops Q w k R S hk hR hw hS hd h21x l a w' h)
    (fs_step22 ops Q w k R S hk hR hw hS hd h22x l a w' h)
    (fs_step23 ops Q w k R S hk hR hw hS hd h23x l a w' h)
end Go.Proofs.YtjjhckbidcdkcaaDoor

namespace Go.Proofs.YtjjhckbidcdkcaaDoor
open Go.RowKit Go.Maps
set_option linter.unusedVariables false

theorem getD_tf (l : Array Bool) (j : Nat) (hj : j < l.size) : l.getD j true = l.getD j false := by simp [hj]
/-- No operation waits for one behind it. -/
def upOk (ops : Array Oper) : Bool := (List.range ops.size).all fun j => match ops[j]? with
  | some o => o.after.all fun e => !(Region.binds .any e) || decide (e.on < j)
  | none => true
theorem ready_all (ops : Array Oper) (hup : upOk ops = true) (l : Array Bool) (hl : l.size = ops.size) (h0 : Region.ready .any ops l = []) : ∀ j, j < ops.size → l.getD j false = true := by
  intro j
  induction j using Nat.strongRecOn with
  | _ j ih =>
    intro hj
    rcases hb : l.getD j false with _ | _
    · exfalso
      have hnot : ¬ j ∈ Region.ready .any ops l := by rw [h0]; exact List.not_mem_nil
      refine hnot (mem_ready.2 ⟨by rw [getD_tf l j (by omega)]; exact hb, ops[j], Array.getElem?_eq_getElem hj, fun e he hbe => ?_⟩)
      have h1 := List.all_eq_true.1 hup j (List.mem_range.2 hj)
      rw [Array.getElem?_eq_getElem hj] at h1
      have h2 := Array.all_eq_true'.1 h1 e he
      rw [hbe] at h2
      have h3 : e.on < j := by simpa using h2
      exact ih e.on h3 (by omega)
    · rfl
theorem unl_start (n : Nat) : unl (Array.replicate n false) ≤ n := by
  unfold unl
  refine Nat.le_trans (List.length_filter_le _ _) ?_
  simp
theorem getD_start (n j : Nat) : (Array.replicate n false).getD j false = false := by
  by_cases h : j < n
  · simp [h]
  · simp [h]
theorem lit_start (n : Nat) (P : List (Nat × Int × Int)) : lit P (Array.replicate n false) = [] := by
  unfold lit
  rw [List.filter_eq_nil_iff.2 (fun p _ => by rw [getD_start]; simp)]
  rfl
theorem fs_region (ops : Array Oper) (Q : Exit → Act → World → Prop) (id : Nat) (w : World) (k R S : Int) (hk : -9223372036854775808 ≤ k ∧ k ≤ 9223372036854775807) (hR : look fszL k = R) (hw : IntKind.i64.wrap (R - S) = R - S) (hS : ∀ W, Calls Tryd.prog 101 #[.int .i64 k] W fun e w' => e = .returned (.int .i64 S) ∧ w' = W)
    (hn : ops.size = 24) (hup : upOk ops = true) (hd : (fsD.all fun p => hasDep ops p.1 p.2) = true)
    (hops : FsOps ops)
    (hQ : ∀ (a : Act) (w' : World), (∃ t3 t4 t5 t6 t7 t8 t9 : Value, a = { tmps := #[.int .i64 k, undef, .int .i64 (R - S), t3, t4, t5, t6, t7, t8, t9], defers := [] }) → Below w.heap.size w w' → Q .normal a w') :
    (Code.region id ops true).wp Tryd.prog Q { tmps := #[.int .i64 k, undef, .int .i64 0, undef, undef, undef, undef, undef, undef, undef], defers := [] } w := by
  refine wp_region_any (by kernel_rfl) ?_
  have hbel : Below w.heap.size w { w with drawn := w.drawn + 1 } := ⟨rfl, rfl, rfl, Nat.le_refl _, fun _ _ => rfl⟩
  have hI : ∀ l a w', FsI { w with drawn := w.drawn + 1 } k R S l a w' → l.size = 24 := fun l a w' h => by
    obtain ⟨t2, t3, t4, t5, t6, t7, t8, t9, rfl, hsz, _⟩ := h
    exact hsz
  refine wpAny_inv (FsI { w with drawn := w.drawn + 1 } k R S) (fun l a w' h h0 => fs_end ops _ k R S hn Q hd (fun a' w'' he hb => hQ a' w'' he (hbel.trans hb)) l a w' h (fun j hj => ready_all ops hup l (by rw [hn]; exact hI l a w' h) h0 j (by omega))) (fun l a w' i h hr => ?_) _ _ _ _ ?_ ?_
  · have hi : i < 24 := by
      obtain ⟨_, o, ho, _⟩ := mem_ready.1 hr
      have := (Array.getElem?_eq_some_iff.1 ho).1
      omega
    exact fs_steps ops Q _ k R S hk hR hw hS hd hops l a w' h i hi hr
  · refine ⟨.int .i64 0, undef, undef, undef, undef, undef, undef, undef, rfl, by simp [hn], ?_, ?_, ?_, ?_, ?_, ?_, ?_, ?_, ?_⟩
    · intro h; rw [getD_start] at h; exact absurd h (by simp)
    · intro _; exact ⟨Below.refl _ _, lit_start _ _⟩
    all_goals (intro h; rw [getD_start] at h; exact absurd h (by simp))
  · exact unl_start _
set_option maxHeartbeats 4000000 in
set_option maxRecDepth 100000 in
theorem fixedSize_calls (w : World) (k : Int) (hk : -9223372036854775808 ≤ k ∧ k ≤ 9223372036854775807) : Calls Tryd.prog 95 #[.int .i64 k] w fun e w' => e = .returned (.int .i64 (fsz k)) ∧ Below w.heap.size w w' := by
  obtain ⟨R, hR⟩ : ∃ R, look fszL k = R := ⟨_, rfl⟩
  obtain ⟨S, hS⟩ : ∃ S, bsz k = S := ⟨_, rfl⟩
  have hRi : 0 ≤ R ∧ R ≤ 16 := hR ▸ look_in fszL 16 (by omega) (by decide) k
  have hSi : 0 ≤ S ∧ S ≤ 1 := hS ▸ bsz_in k
  have hw : IntKind.i64.wrap (R - S) = R - S := by rw [IntKind.wrap_i64]; omega
  have hC : ∀ W, Calls Tryd.prog 101 #[.int .i64 k] W fun e w' => e = .returned (.int .i64 S) ∧ w' = W := fun W => hS ▸ boolSize_calls W k
  unfold fsz
  rw [hR, hS]
  go_enter Tryd.func95, Tryd.ntmps95
  go_wp2
  refine fs_region _ _ _ _ k R S hk hR hw hC rfl (by kernel_rfl) (by kernel_rfl) ⟨⟨_, rfl, rfl, rfl, rfl⟩, ⟨_, rfl, rfl, rfl, rfl⟩, ⟨_, rfl, rfl, rfl, rfl⟩, ⟨_, rfl, rfl, rfl, rfl⟩, ⟨_, rfl, rfl, rfl, rfl⟩, ⟨_, rfl, rfl, rfl, rfl⟩, ⟨_, rfl, rfl, rfl, rfl⟩, ⟨_, rfl, rfl, rfl, rfl⟩, ⟨_, rfl, rfl, rfl, rfl⟩, ⟨_, rfl, rfl, rfl, rfl⟩, ⟨_, rfl, rfl, rfl, rfl⟩, ⟨_, rfl, rfl, rfl, rfl⟩, ⟨_, rfl, rfl, rfl, rfl⟩, ⟨_, rfl, rfl, rfl, rfl⟩, ⟨_, rfl, rfl, rfl, rfl⟩, ⟨_, rfl, rfl, rfl, rfl⟩, ⟨_, rfl, rfl, rfl, rfl⟩, ⟨_, rfl, rfl, rfl, rfl⟩, ⟨_, rfl, rfl, rfl, rfl⟩, ⟨_, rfl, rfl, rfl, rfl⟩, ⟨_, rfl, rfl, rfl, rfl⟩, ⟨_, rfl, rfl, rfl, rfl⟩, ⟨_, rfl, rfl, rfl, rfl⟩, ⟨_, rfl, rfl, rfl, rfl⟩⟩ ?_
  rintro a w' ⟨t3, t4, t5, t6, t7, t8, t9, rfl⟩ hbel
  have HB := Lib.hid hbel
  clear hbel
  go_wp2
  go_ret
  exact ⟨rfl, HB.out⟩
end Go.Proofs.YtjjhckbidcdkcaaDoor
