/- Whatever bytes stand before, and whatever list of whole numbers of 32 bits is laid into a set and appended by setof's Int32Sorted: the reference reads what comes behind as an array of its values, each once, by their order: the law FnPutSetInt32 returns true on every input; no condition. -/
import Derived.Test.YtfhaddnacdjpoaaRows
import Derived.Test.YtfhaddnacdjpoaaOpen
import Derived.Test.YtfhaddnacdjpoaaSk
namespace Go.Proofs.Ytfhaddnacdjpoaa.fnPutSetInt32
open Go.ChangeShapes Go.WideShapes Go.ChangeAt Go.RowKit
open Go.ChangeMaps (open_string shut_string)
set_option linter.unusedVariables false
set_option maxRecDepth 100000 in
theorem lifted (os : Os) (started : os.Started) (H : Type) (enc : TypeId × Value → H) :
    ReturnsInHanded {} Try.checked os 4 .any (Rows.fnPutSetInt32Spec.pre6 enc Try.prog Try.f4 Rows.fnPutSetInt32Row.domain false) (Rows.fnPutSetInt32Spec.post enc Try.prog Try.f4 false true false false) := by
  refine returnsInHanded_of_change_sized (C := Try.checked) own started (by kernel_rfl) Try.func4
    (ChangeSpec.witness6 (enc := enc) (C := Try.checked) false ⟨#[], #[.slice none 0 0, .slice none 0 0], []⟩ 8 (by kernel_rfl) (by kernel_rfl) (by kernel_rfl) (by kernel_rfl)) ?_
  intro W base args ds gs before hval0 hW hcnd hsz0 _
  have hsz : (DataW.weightsEach Try.prog (Try.f4.params.toList ++ Rows.fnPutSetInt32Spec.plain.varTypes Try.prog) (ds ++ gs)).all (· ≤ reachBytes) = true := hsz0
  have hval : ∀ (j : Nat) t v, Try.f4.params[j]? = some t → args[j]? = some v → Value.okWide Try.prog W .any base t v := hval0
  have hW' := hW
  obtain ⟨p, q, hA0, hV, rfl, hfz, hnd⟩ := hW
  have hA : DataW.TrodAll enc Try.prog W 0 (fun _ => true) true Try.f4.params.toList args.toList ds p := hA0
  rw [Try.params4] at hA hval hsz
  obtain ⟨v0, vs0, d0, ds0, p0, q0, hargs, rfl, rfl, h0, r0⟩ := trodAll_cons hA
  obtain ⟨v1, vs1, d1, ds1, p1, q1, rfl, rfl, rfl, h1, r1⟩ := trodAll_cons r0
  obtain ⟨rfl, rfl, rfl⟩ := trodAll_nil r1
  obtain rfl : args = #[v0, v1] := by cases args; simp_all
  obtain ⟨rfl, rfl⟩ := trodVars_none hV
  obtain ⟨a0, len0, cap0, rfl⟩ := okWide_slice Try.underlying22 (hval 0 22 v0 rfl rfl)
  have k0 := h0
  have lt0 : ∀ x ∈ p0, x.block < W.heap.size := by obtain ⟨m, hm⟩ := k0; exact DataW.trod_lt m _ _ _ hm
  have y0 : len0 * 1 ≤ 140737488351232 := sized_nums hsz (j := 0) (t := 22) rfl rfl Try.underlying22 Try.underlying5 (by kernel_rfl) (by kernel_rfl) h0
  obtain ⟨l0, rfl, hr0, hc0, hm0, hw0⟩ := open_nums Try.underlying22 Try.underlying5 (by kernel_rfl) h0
  obtain ⟨a1, len1, cap1, rfl⟩ := okWide_slice Try.underlying32 (hval 1 32 v1 rfl rfl)
  have k1 := h1
  have lt1 : ∀ x ∈ p1, x.block < W.heap.size := by obtain ⟨m, hm⟩ := k1; exact DataW.trod_lt m _ _ _ hm
  have y1 : len1 * 4 ≤ 140737488351232 := sized_nums hsz (j := 1) (t := 32) rfl rfl Try.underlying32 Try.underlying21 (by kernel_rfl) (by kernel_rfl) h1
  obtain ⟨l1, rfl, hr1, hc1, hm1, hw1⟩ := open_nums Try.underlying32 Try.underlying21 (by kernel_rfl) h1
  clear hA0 hval0 hsz0 hsz
  refine (show Calls Try.prog 4 _ W (fun e w' => e = .returned (.bool true) ∧ Below W.heap.size W w') from walkI W _ _ _ _ _ _ hr0 hr1 hc0 (fun x hx => wf_i32 (hw1 x hx))).mono fun e W' ⟨he, bel⟩ => ?_
  subst he
  exact ⟨_, rfl, _, _, _, [], _, [], hW', trodAll_mk1 (shut_bool Try.underlying4 _), (trodAll_cons_mk (Below.trod laidOut (by kernel_rfl) (of_decide_eq_true (by kernel_rfl)) k0 bel lt0) (trodAll_cons_mk (Below.trod laidOut (by kernel_rfl) (of_decide_eq_true (by kernel_rfl)) k1 bel lt1) trodAll_mk0)), rfl, bel.frame _, fun h => by cases h⟩
theorem over : Rows.fnPutSetInt32Row.holds Try.pinned (OpenSpec.ofChange Rows.fnPutSetInt32Spec) :=
  OpenClaim.holds_of_wide 4 Try.f4 rfl rfl rfl rfl rfl rfl rfl ⟨rfl, rfl, rfl, rfl, rfl⟩ rfl rfl rfl rfl rfl (by kernel_rfl) Try.func4 (by kernel_rfl)
    (of_decide_eq_true (by kernel_rfl)) (by unfold Func.isWrapper; first | (rw [if_pos (by decide +kernel)]; kernel_rfl) | (rw [if_neg (by decide +kernel)]; exact ⟨rfl, rfl⟩))
    (fun os started H enc _ => lifted os started H enc)
end Go.Proofs.Ytfhaddnacdjpoaa.fnPutSetInt32
namespace Go.Proofs.Ytfhaddnacdjpoaa
/-- The row, under a short name, for the claim. -/
theorem fnPutSetInt32_holds : Rows.FnPutSetInt32Said := fnPutSetInt32.over
#print axioms fnPutSetInt32_holds
end Go.Proofs.Ytfhaddnacdjpoaa
