/- The law FnWriteShort: a short is written as one. -/
import Derived.Test.YtephkecfpepmpaaGreatDoorRows
import Derived.Test.YtephkecfpepmpaaGreatDoorCards
import Derived.Test.YtephkecfpepmpaaGreatDoorTie
import Derived.Test.YtephkecfpepmpaaGreatDoorOpen
import Derived.LaidMore
import Derived.Lay
import Derived.SevenTiedAt
import Derived.Test.YtephkecfpepmpaaGreatDoorWb
namespace Go.Proofs.YtephkecfpepmpaaGreatDoor.fnWriteShort
open Go.ChangeShapes Go.WideShapes Go.ChangeAt Go.RowKit
open Go.ChangeMaps (open_string shut_string)
set_option linter.unusedVariables false
set_option maxRecDepth 100000 in
theorem lifted (os : Os) (started : os.Started) (H : Type) (enc : TypeId × Value → H) :
    ReturnsInHanded {} Tryz.checked os 3 .any (fun w args => (Rows.fnWriteShortSpec.pre enc Tryz.prog Tryz.f3 Rows.fnWriteShortRow.domain false w args ∧ laidMetH Tryz.prog Rows.fnWriteShortRow.laid w) ∧ sizedMet enc Tryz.prog Tryz.f3 (OpenSpec.ofChange Rows.fnWriteShortSpec) false w args)
      (Rows.fnWriteShortSpec.post enc Tryz.prog Tryz.f3 false true false false) := by
  refine returnsInHanded_of_change_and (C := Tryz.checked) (X := fun w _ => laidMetH Tryz.prog Rows.fnWriteShortRow.laid w) (fun _ _ _ hh h => h.of_heap hh) own started (by kernel_rfl) Tryz.func3
    (ChangeSpec.witness_shaped (enc := enc) (C := Tryz.checked) (os := os) (X := fun w _ => laidMetH Tryz.prog Rows.fnWriteShortRow.laid w) false (World.laidAll Tryz.prog os Rows.fnWriteShortRow.laid) #[.int .i16 0] 8 (World.laidAll_os _ _ _)
      (World.shaped_of_ZipB (by kernel_rfl) (by kernel_rfl)) (by kernel_rfl) (by kernel_rfl) (by kernel_rfl)
      (by rw [MakeChecks.laidMetH_plain _ _ _ (by kernel_rfl)]; exact laidMet_laidAll _ (by kernel_rfl) (by kernel_rfl))) ?_
  intro W base args ds gs before hval0 hW hcnd hsz0 hL _
  have hsz : (DataW.weightsEach Tryz.prog (Tryz.f3.params.toList ++ Rows.fnWriteShortSpec.plain.varTypes Tryz.prog) (ds ++ gs)).all (· ≤ reachBytes) = true := hsz0
  have hval : ∀ (j : Nat) t v, Tryz.f3.params[j]? = some t → args[j]? = some v → Value.okWide Tryz.prog W .any base t v := hval0
  have hW' := hW
  obtain ⟨p, q, hA0, hV, rfl, hfz, hnd⟩ := hW
  have hA : DataW.TrodAll enc Tryz.prog W 0 (fun _ => true) true Tryz.f3.params.toList args.toList ds p := hA0
  rw [Tryz.params3] at hA hval hsz
  obtain ⟨v0, vs0, d0, ds0, p0, q0, hargs, rfl, rfl, h0, r0⟩ := trodAll_cons hA
  obtain ⟨rfl, rfl, rfl⟩ := trodAll_nil r0
  obtain rfl : args = #[v0] := by cases args; simp_all
  obtain ⟨rfl, rfl⟩ := trodVars_none hV
  obtain ⟨a0, rfl, rfl, rfl, w0⟩ := open_int Tryz.underlying22 (hval 0 22 v0 rfl rfl) h0
  obtain ⟨lo0, hi0⟩ := wf_i16 w0
  clear hA0 hval0 hsz0 hsz
  refine (show Calls Tryz.prog 3 _ W (fun e w' => e = .returned (.bool true) ∧ Below W.heap.size W w') from FnWriteShort_walk W _ lo0 hi0).mono fun e W' ⟨he, bel⟩ => ?_
  subst he
  exact ⟨_, rfl, _, _, _, [], _, [], hW', trodAll_mk1 (shut_bool Tryz.underlying4 _), (trodAll_cons_mk (shut_int Tryz.underlying22 w0) trodAll_mk0), rfl, bel.frame _, fun h => by cases h⟩
theorem over : Rows.fnWriteShortRow.holds Tryz.pinned (OpenSpec.ofChange Rows.fnWriteShortSpec) :=
  OpenClaim.holds_of_wide 3 Tryz.f3 rfl rfl rfl rfl rfl rfl rfl ⟨rfl, rfl, rfl, rfl, rfl⟩ rfl rfl rfl rfl rfl (by kernel_rfl) Tryz.func3 (by kernel_rfl)
    (of_decide_eq_true (by kernel_rfl)) (by unfold Func.isWrapper; first | (rw [if_pos (by decide +kernel)]; kernel_rfl) | (rw [if_neg (by decide +kernel)]; exact ⟨rfl, rfl⟩))
    (fun os started H enc _ => lifted os started H enc)
theorem card : Rows.FnWriteShortCardSaid :=
  Claim7.holds_tied_plain_at .later [] [.data, .pinned] true (true, "07c8e530797d8e7f3e0c9cef12d1e68185d7856c3efd05ac9456d75149c12d91") true over (fun _ h => by cases h) (by kernel_rfl) (fun _ h => by cases h) fnWriteShort_row_tie rfl ⟨rfl, rfl⟩ (by kernel_rfl) rfl
    (fun f fn hf hfn => by
      obtain rfl : f = 3 := Option.some.inj ((show Tryz.prog.funcNamed "given.example/pub-saddlebag/laws.FnWriteShort" = some 3 by kernel_rfl).symm.trans hf) |>.symm
      obtain rfl : fn = Tryz.f3 := (Option.some.inj (Tryz.func3.symm.trans hfn)).symm
      exact ⟨by kernel_rfl, fun j t ht => by
        rw [Tryz.params3] at ht
        have hm : t ∈ [22] := by simpa using Array.mem_of_getElem? ht
        have hall : ([22].all fun u => !Tryz.prog.wantsStandIn u) = true := by kernel_rfl
        exact (show Tryz.prog.wantsStandIn t = false by simpa using List.all_eq_true.1 hall t hm)⟩)
    (by kernel_rfl)
end Go.Proofs.YtephkecfpepmpaaGreatDoor.fnWriteShort
namespace Go.Proofs.YtephkecfpepmpaaGreatDoor
/-- The tied card, under a short name, for the claim. -/
theorem fnWriteShort_holds : Rows.FnWriteShortCardSaid := fnWriteShort.card
#print axioms fnWriteShort_holds
end Go.Proofs.YtephkecfpepmpaaGreatDoor
