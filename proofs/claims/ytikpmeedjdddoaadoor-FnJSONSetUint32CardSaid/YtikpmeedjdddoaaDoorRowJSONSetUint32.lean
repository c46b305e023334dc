/- The law FnJSONSetUint32: a set is written as JSON: an array of its values, each once, by their order. (At most 100.) -/
import Derived.Test.YtikpmeedjdddoaaDoorRows
import Derived.Test.YtikpmeedjdddoaaDoorCards
import Derived.Test.YtikpmeedjdddoaaDoorTie
import Derived.Test.YtikpmeedjdddoaaDoorOpen
import Derived.LaidMore
import Derived.Lay
import Derived.SevenTiedAt
import Derived.Test.YtikpmeedjdddoaaDoorJh
import Derived.LaidLaws
import Derived.Lib.LaidTab
import Derived.Lib.AppendIntMem
namespace Go.Proofs.YtikpmeedjdddoaaDoor.fnJSONSetUint32
open Go.ChangeShapes Go.WideShapes Go.ChangeAt Go.RowKit
open Go.ChangeMaps (open_string shut_string)
set_option linter.unusedVariables false
/-- The table that the row lays. -/
theorem tab_of_laid {W : World} (h : laidMetH Tryd.prog Rows.fnJSONSetUint32Row.laid W) : TabJ W := by
  rw [MakeChecks.laidMetH_plain _ _ _ (by kernel_rfl)] at h
  obtain ⟨ps, ⟨_, _, _, _, _, _, _, _, _, _, ⟨_, _, _, _, _, _, _, _, _, _, ⟨g, t, cs, fuel, p, q, hg, ht, hvar, hd, _, _⟩, _⟩, _⟩, _⟩ := h
  have e : (Rows.laid_internal_strconv_uint64pow10 : DataW Unit) = Lib.tabData .u64 Lib.pow10Tab := by kernel_rfl
  rw [e] at hd
  obtain rfl := Option.some.inj ((show Tryd.prog.globalNamed "internal/strconv.uint64pow10" = some 2 by kernel_rfl).symm.trans hg)
  obtain rfl := Option.some.inj ((show (Tryd.prog.globals[2]?).map (·.type) = some 131 by kernel_rfl).symm.trans ht)
  refine Lib.tabBelow_of_tabIs ?_
  unfold Lib.TabIs
  rw [hvar, ← Lib.cells_of_tab Tryd.underlying131 Tryd.underlying25 (by kernel_rfl) (by kernel_rfl) hd]
set_option maxRecDepth 100000 in
theorem lifted (os : Os) (started : os.Started) (H : Type) (enc : TypeId × Value → H) :
    ReturnsInHanded {} Tryd.checked os 3 .any (fun w args => (Rows.fnJSONSetUint32Spec.pre enc Tryd.prog Tryd.f3 Rows.fnJSONSetUint32Row.domain false w args ∧ laidMetH Tryd.prog Rows.fnJSONSetUint32Row.laid w) ∧ sizedMet enc Tryd.prog Tryd.f3 (OpenSpec.ofChange Rows.fnJSONSetUint32Spec) false w args)
      (Rows.fnJSONSetUint32Spec.post enc Tryd.prog Tryd.f3 false true false false) := by
  refine returnsInHanded_of_change_and (C := Tryd.checked) (X := fun w _ => laidMetH Tryd.prog Rows.fnJSONSetUint32Row.laid w) (fun _ _ _ hh h => h.of_heap hh) own started (by kernel_rfl) Tryd.func3
    (ChangeSpec.witness_shaped (enc := enc) (C := Tryd.checked) (os := os) (X := fun w _ => laidMetH Tryd.prog Rows.fnJSONSetUint32Row.laid w) false (World.laidAll Tryd.prog os Rows.fnJSONSetUint32Row.laid) #[.slice none 0 0] 8 (World.laidAll_os _ _ _)
      (World.shaped_of_ZipB (by kernel_rfl) (by kernel_rfl)) (by kernel_rfl) (by kernel_rfl) (by kernel_rfl)
      (by rw [MakeChecks.laidMetH_plain _ _ _ (by kernel_rfl)]; exact laidMet_laidAll _ (by kernel_rfl) (by kernel_rfl))) ?_
  intro W base args ds gs before hval0 hW hcnd hsz0 hL _
  have hsz : (DataW.weightsEach Tryd.prog (Tryd.f3.params.toList ++ Rows.fnJSONSetUint32Spec.plain.varTypes Tryd.prog) (ds ++ gs)).all (· ≤ reachBytes) = true := hsz0
  have hval : ∀ (j : Nat) t v, Tryd.f3.params[j]? = some t → args[j]? = some v → Value.okWide Tryd.prog W .any base t v := hval0
  have hW' := hW
  obtain ⟨p, q, hA0, hV, rfl, hfz, hnd⟩ := hW
  have hA : DataW.TrodAll enc Tryd.prog W 0 (fun _ => true) true Tryd.f3.params.toList args.toList ds p := hA0
  rw [Tryd.params3] at hA hval hsz
  obtain ⟨v0, vs0, d0, ds0, p0, q0, hargs, rfl, rfl, h0, r0⟩ := trodAll_cons hA
  obtain ⟨rfl, rfl, rfl⟩ := trodAll_nil r0
  obtain rfl : args = #[v0] := by cases args; simp_all
  obtain ⟨rfl, rfl⟩ := trodVars_none hV
  obtain ⟨a0, len0, cap0, rfl⟩ := okWide_slice Tryd.underlying22 (hval 0 22 v0 rfl rfl)
  have k0 := h0
  have lt0 : ∀ x ∈ p0, x.block < W.heap.size := by obtain ⟨m, hm⟩ := k0; exact DataW.trod_lt m _ _ _ hm
  have y0 : len0 * 4 ≤ 140737488351232 := sized_nums hsz (j := 0) (t := 22) rfl rfl Tryd.underlying22 Tryd.underlying24 (by kernel_rfl) (by kernel_rfl) h0
  obtain ⟨l0, rfl, hr0, hc0, hm0, hw0⟩ := open_nums Tryd.underlying22 Tryd.underlying24 (by kernel_rfl) h0
  clear hA0 hval0 hsz0 hsz
  refine (show Calls Tryd.prog 3 _ W (fun e w' => e = .returned (.bool true) ∧ Below W.heap.size W w') from walkW W _ _ _ hr0 (fun x hx => wf_u32 (hw0 x hx)) (tab_of_laid hL)).mono fun e W' ⟨he, bel⟩ => ?_
  subst he
  exact ⟨_, rfl, _, _, _, [], _, [], hW', trodAll_mk1 (shut_bool Tryd.underlying4 _), (trodAll_cons_mk (Below.trod laidOut (by kernel_rfl) (of_decide_eq_true (by kernel_rfl)) k0 bel lt0) trodAll_mk0), rfl, bel.frame _, fun h => by cases h⟩
theorem over : Rows.fnJSONSetUint32Row.holds Tryd.pinned (OpenSpec.ofChange Rows.fnJSONSetUint32Spec) :=
  OpenClaim.holds_of_wide 3 Tryd.f3 rfl rfl rfl rfl rfl rfl rfl ⟨rfl, rfl, rfl, rfl, rfl⟩ rfl rfl rfl rfl rfl (by kernel_rfl) Tryd.func3 (by kernel_rfl)
    (of_decide_eq_true (by kernel_rfl)) (by unfold Func.isWrapper; first | (rw [if_pos (by decide +kernel)]; kernel_rfl) | (rw [if_neg (by decide +kernel)]; exact ⟨rfl, rfl⟩))
    (fun os started H enc _ => lifted os started H enc)
theorem card : Rows.FnJSONSetUint32CardSaid :=
  Claim7.holds_tied_plain_at .later [] [.data, .data, .data, .data, .pinned] true (true, "bcf052c1ae6539be2732da7fd257f9da65a680d630b7a390b434e70ddb5b7d04") true over (fun _ h => by cases h) (by kernel_rfl) (fun _ h => by cases h) fnJSONSetUint32_row_tie rfl ⟨rfl, rfl⟩ (by kernel_rfl) rfl
    (fun f fn hf hfn => by
      obtain rfl : f = 3 := Option.some.inj ((show Tryd.prog.funcNamed "given.example/pub-saddlebag/laws.FnJSONSetUint32" = some 3 by kernel_rfl).symm.trans hf) |>.symm
      obtain rfl : fn = Tryd.f3 := (Option.some.inj (Tryd.func3.symm.trans hfn)).symm
      exact ⟨by kernel_rfl, fun j t ht => by
        rw [Tryd.params3] at ht
        have hm : t ∈ [22] := by simpa using Array.mem_of_getElem? ht
        have hall : ([22].all fun u => !Tryd.prog.wantsStandIn u) = true := by kernel_rfl
        exact (show Tryd.prog.wantsStandIn t = false by simpa using List.all_eq_true.1 hall t hm)⟩)
    (by kernel_rfl)
end Go.Proofs.YtikpmeedjdddoaaDoor.fnJSONSetUint32
namespace Go.Proofs.YtikpmeedjdddoaaDoor
/-- The tied card, under a short name, for the claim. -/
theorem fnJSONSetUint32_holds : Rows.FnJSONSetUint32CardSaid := fnJSONSetUint32.card
#print axioms fnJSONSetUint32_holds
end Go.Proofs.YtikpmeedjdddoaaDoor
