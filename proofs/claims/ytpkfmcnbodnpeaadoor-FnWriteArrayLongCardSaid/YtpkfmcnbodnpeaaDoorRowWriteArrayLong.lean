/- The law FnWriteArrayLong: a list of longs that is asked is written, and the reference reads it. -/
import Derived.Test.YtpkfmcnbodnpeaaDoorRows
import Derived.Test.YtpkfmcnbodnpeaaDoorCards
import Derived.Test.YtpkfmcnbodnpeaaDoorTie
import Derived.Test.YtpkfmcnbodnpeaaDoorOpen
import Derived.LaidMore
import Derived.Lay
import Derived.SevenTiedAt
import Derived.Test.YtpkfmcnbodnpeaaDoorVn
namespace Go.Proofs.YtpkfmcnbodnpeaaDoor.fnWriteArrayLong
open Go.ChangeShapes Go.WideShapes Go.ChangeAt Go.RowKit
open Go.ChangeMaps (open_string shut_string)
set_option linter.unusedVariables false
set_option maxRecDepth 100000 in
theorem lifted (os : Os) (started : os.Started) (H : Type) (enc : TypeId × Value → H) :
    ReturnsInHanded {} Tryd.checked os 6 .any (fun w args => (Rows.fnWriteArrayLongSpec.pre enc Tryd.prog Tryd.f6 Rows.fnWriteArrayLongRow.domain false w args ∧ laidMetH Tryd.prog Rows.fnWriteArrayLongRow.laid w) ∧ sizedMet enc Tryd.prog Tryd.f6 (OpenSpec.ofChange Rows.fnWriteArrayLongSpec) false w args)
      (Rows.fnWriteArrayLongSpec.post enc Tryd.prog Tryd.f6 false true false false) := by
  refine returnsInHanded_of_change_and (C := Tryd.checked) (X := fun w _ => laidMetH Tryd.prog Rows.fnWriteArrayLongRow.laid w) (fun _ _ _ hh h => h.of_heap hh) own started (by kernel_rfl) Tryd.func6
    (ChangeSpec.witness_shaped (enc := enc) (C := Tryd.checked) (os := os) (X := fun w _ => laidMetH Tryd.prog Rows.fnWriteArrayLongRow.laid w) false (World.laidAll Tryd.prog os Rows.fnWriteArrayLongRow.laid) #[.slice none 0 0] 8 (World.laidAll_os _ _ _)
      (World.shaped_of_ZipB (by kernel_rfl) (by kernel_rfl)) (by kernel_rfl) (by kernel_rfl) (by kernel_rfl)
      (by rw [MakeChecks.laidMetH_plain _ _ _ (by kernel_rfl)]; exact laidMet_laidAll _ (by kernel_rfl) (by kernel_rfl))) ?_
  intro W base args ds gs before hval0 hW hcnd hsz0 hL _
  have hsz : (DataW.weightsEach Tryd.prog (Tryd.f6.params.toList ++ Rows.fnWriteArrayLongSpec.plain.varTypes Tryd.prog) (ds ++ gs)).all (· ≤ reachBytes) = true := hsz0
  have hval : ∀ (j : Nat) t v, Tryd.f6.params[j]? = some t → args[j]? = some v → Value.okWide Tryd.prog W .any base t v := hval0
  have hW' := hW
  obtain ⟨p, q, hA0, hV, rfl, hfz, hnd⟩ := hW
  have hA : DataW.TrodAll enc Tryd.prog W 0 (fun _ => true) true Tryd.f6.params.toList args.toList ds p := hA0
  rw [Tryd.params6] at hA hval hsz
  obtain ⟨v0, vs0, d0, ds0, p0, q0, hargs, rfl, rfl, h0, r0⟩ := trodAll_cons hA
  obtain ⟨rfl, rfl, rfl⟩ := trodAll_nil r0
  obtain rfl : args = #[v0] := by cases args; simp_all
  obtain ⟨rfl, rfl⟩ := trodVars_none hV
  obtain ⟨a0, len0, cap0, rfl⟩ := okWide_slice Tryd.underlying37 (hval 0 37 v0 rfl rfl)
  have k0 := h0
  have lt0 : ∀ x ∈ p0, x.block < W.heap.size := by obtain ⟨m, hm⟩ := k0; exact DataW.trod_lt m _ _ _ hm
  have y0 : len0 * 8 ≤ 140737488351232 := sized_nums hsz (j := 0) (t := 37) rfl rfl Tryd.underlying37 Tryd.underlying2 (by kernel_rfl) (by kernel_rfl) h0
  obtain ⟨l0, rfl, hr0, hc0, hm0, hw0⟩ := open_nums Tryd.underlying37 Tryd.underlying2 (by kernel_rfl) h0
  clear hA0 hval0 hsz0 hsz
  refine (show Calls Tryd.prog 6 _ W (fun e w' => e = .returned (.bool true) ∧ Below W.heap.size W w') from FnWriteArrayLong_walk W _ _ _ hr0 (fun x hx => wf_i64 (hw0 x hx))).mono fun e W' ⟨he, bel⟩ => ?_
  subst he
  exact ⟨_, rfl, _, _, _, [], _, [], hW', trodAll_mk1 (shut_bool Tryd.underlying4 _), (trodAll_cons_mk (Below.trod laidOut (by kernel_rfl) (of_decide_eq_true (by kernel_rfl)) k0 bel lt0) trodAll_mk0), rfl, bel.frame _, fun h => by cases h⟩
theorem over : Rows.fnWriteArrayLongRow.holds Tryd.pinned (OpenSpec.ofChange Rows.fnWriteArrayLongSpec) :=
  OpenClaim.holds_of_wide 6 Tryd.f6 rfl rfl rfl rfl rfl rfl rfl ⟨rfl, rfl, rfl, rfl, rfl⟩ rfl rfl rfl rfl rfl (by kernel_rfl) Tryd.func6 (by kernel_rfl)
    (of_decide_eq_true (by kernel_rfl)) (by unfold Func.isWrapper; first | (rw [if_pos (by decide +kernel)]; kernel_rfl) | (rw [if_neg (by decide +kernel)]; exact ⟨rfl, rfl⟩))
    (fun os started H enc _ => lifted os started H enc)
theorem card : Rows.FnWriteArrayLongCardSaid :=
  Claim7.holds_tied_plain_at .later [] [.data, .pinned] true (true, "74d8542d320db4bdd5a103ade482a784d33910b9adf002fbaa36b9286f0d52b1") false over (fun _ h => by cases h) (by kernel_rfl) (fun _ h => by cases h) fnWriteArrayLong_row_tie rfl ⟨rfl, rfl⟩ (by kernel_rfl) rfl
    (fun f fn hf hfn => by
      obtain rfl : f = 6 := Option.some.inj ((show Tryd.prog.funcNamed "given.example/pub-saddlebag/laws.FnWriteArrayLong" = some 6 by kernel_rfl).symm.trans hf) |>.symm
      obtain rfl : fn = Tryd.f6 := (Option.some.inj (Tryd.func6.symm.trans hfn)).symm
      exact ⟨by kernel_rfl, fun j t ht => by
        rw [Tryd.params6] at ht
        have hm : t ∈ [37] := by simpa using Array.mem_of_getElem? ht
        have hall : ([37].all fun u => !Tryd.prog.wantsStandIn u) = true := by kernel_rfl
        exact (show Tryd.prog.wantsStandIn t = false by simpa using List.all_eq_true.1 hall t hm)⟩)
    (by kernel_rfl)
end Go.Proofs.YtpkfmcnbodnpeaaDoor.fnWriteArrayLong
namespace Go.Proofs.YtpkfmcnbodnpeaaDoor
/-- The tied card, under a short name, for the claim. -/
theorem fnWriteArrayLong_holds : Rows.FnWriteArrayLongCardSaid := fnWriteArrayLong.card
#print axioms fnWriteArrayLong_holds
end Go.Proofs.YtpkfmcnbodnpeaaDoor
