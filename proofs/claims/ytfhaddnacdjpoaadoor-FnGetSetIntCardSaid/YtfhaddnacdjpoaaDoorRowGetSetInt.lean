/- The law FnGetSetInt: an array of values is read as a set in whatever form it is written: each once, by their order; and what stands behind it is told. (At most 100.) -/
import Derived.Test.YtfhaddnacdjpoaaDoorRows
import Derived.Test.YtfhaddnacdjpoaaDoorCards
import Derived.Test.YtfhaddnacdjpoaaDoorTie
import Derived.Test.YtfhaddnacdjpoaaDoorOpen
import Derived.LaidMore
import Derived.Lay
import Derived.SevenTiedAt
import Derived.Test.YtfhaddnacdjpoaaDoorSu
import Derived.OpenVars
import Derived.ChangeVars
namespace Go.Proofs.YtfhaddnacdjpoaaDoor.fnGetSetInt
open Go.ChangeShapes Go.WideShapes Go.ChangeAt Go.RowKit
open Go.ChangeMaps (open_string shut_string)
set_option linter.unusedVariables false
set_option maxRecDepth 100000 in
theorem lifted (os : Os) (started : os.Started) (H : Type) (enc : TypeId × Value → H) :
    ReturnsInHanded {} Tryd.checked os 5 .any (fun w args => (Rows.fnGetSetIntSpec.pre enc Tryd.prog Tryd.f5 Rows.fnGetSetIntRow.domain false w args ∧ laidMetH Tryd.prog Rows.fnGetSetIntRow.laid w) ∧ sizedMet enc Tryd.prog Tryd.f5 (OpenSpec.ofChange Rows.fnGetSetIntSpec) false w args)
      (Rows.fnGetSetIntSpec.post enc Tryd.prog Tryd.f5 false true false false) := by
  refine returnsInHanded_of_change_and (C := Tryd.checked) (X := fun w _ => laidMetH Tryd.prog Rows.fnGetSetIntRow.laid w) (fun _ _ _ hh h => h.of_heap hh) own started (by kernel_rfl) Tryd.func5
    (ChangeSpec.witness_shaped (enc := enc) (C := Tryd.checked) (os := os) (X := fun w _ => laidMetH Tryd.prog Rows.fnGetSetIntRow.laid w) false (World.laidAll Tryd.prog os Rows.fnGetSetIntRow.laid) #[.slice none 0 0, .int .u64 0, .slice none 0 0] 8 (World.laidAll_os _ _ _)
      (World.shaped_of_ZipB (by kernel_rfl) (by kernel_rfl)) (by kernel_rfl) (by kernel_rfl) (by kernel_rfl)
      (by rw [MakeChecks.laidMetH_plain _ _ _ (by kernel_rfl)]; exact laidMet_laidAll _ (by kernel_rfl) (by kernel_rfl))) ?_
  intro W base args ds gs before hval0 hW hcnd hsz0 hL _
  have hsz : (DataW.weightsEach Tryd.prog (Tryd.f5.params.toList ++ Rows.fnGetSetIntSpec.plain.varTypes Tryd.prog) (ds ++ gs)).all (· ≤ reachBytes) = true := hsz0
  have hval : ∀ (j : Nat) t v, Tryd.f5.params[j]? = some t → args[j]? = some v → Value.okWide Tryd.prog W .any base t v := hval0
  have hW' := hW
  obtain ⟨p, q, hA0, hV, rfl, hfz, hnd⟩ := hW
  have hA : DataW.TrodAll enc Tryd.prog W 0 (fun _ => true) true Tryd.f5.params.toList args.toList ds p := hA0
  rw [Tryd.params5] at hA hval hsz
  obtain ⟨v0, vs0, d0, ds0, p0, q0, hargs, rfl, rfl, h0, r0⟩ := trodAll_cons hA
  obtain ⟨v1, vs1, d1, ds1, p1, q1, rfl, rfl, rfl, h1, r1⟩ := trodAll_cons r0
  obtain ⟨v2, vs2, d2, ds2, p2, q2, rfl, rfl, rfl, h2, r2⟩ := trodAll_cons r1
  obtain ⟨rfl, rfl, rfl⟩ := trodAll_nil r2
  obtain rfl : args = #[v0, v1, v2] := by cases args; simp_all
  have hV0 : DataW.TrodVars enc Tryd.prog W (fun _ => true) ["given.example/pub-saddlebag/pub/msgp/msgp.ErrShortBytes"] gs q := hV
  obtain ⟨gg, tt, ccs, fu, dg, pg, rfl, hg1, hg2, hg3, hg4, hq⟩ := trodVars_one hV0
  obtain ⟨a0, len0, cap0, rfl⟩ := okWide_slice Tryd.underlying45 (hval 0 45 v0 rfl rfl)
  have k0 := h0
  have lt0 : ∀ x ∈ p0, x.block < W.heap.size := by obtain ⟨m, hm⟩ := k0; exact DataW.trod_lt m _ _ _ hm
  have y0 : len0 * 8 ≤ 140737488351232 := sized_nums hsz (j := 0) (t := 45) rfl rfl Tryd.underlying45 Tryd.underlying2 (by kernel_rfl) (by kernel_rfl) h0
  obtain ⟨l0, rfl, hr0, hc0, hm0, hw0⟩ := open_nums Tryd.underlying45 Tryd.underlying2 (by kernel_rfl) h0
  obtain ⟨a1, rfl, rfl, rfl, w1⟩ := open_int Tryd.underlying23 (hval 1 23 v1 rfl rfl) h1
  obtain ⟨lo1, hi1⟩ := wf_u64 w1
  obtain ⟨a2, len2, cap2, rfl⟩ := okWide_slice Tryd.underlying24 (hval 2 24 v2 rfl rfl)
  have k2 := h2
  have lt2 : ∀ x ∈ p2, x.block < W.heap.size := by obtain ⟨m, hm⟩ := k2; exact DataW.trod_lt m _ _ _ hm
  have y2 : len2 * 1 ≤ 140737488351232 := sized_nums hsz (j := 2) (t := 24) rfl rfl Tryd.underlying24 Tryd.underlying5 (by kernel_rfl) (by kernel_rfl) h2
  obtain ⟨l2, rfl, hr2, hc2, hm2, hw2⟩ := open_nums Tryd.underlying24 Tryd.underlying5 (by kernel_rfl) h2
  clear hA0 hval0 hsz0 hsz
  refine (show Calls Tryd.prog 5 _ W (fun e w' => e = .returned (.bool true) ∧ Below W.heap.size W w') from walkJ W _ _ _ _ _ _ _ hr2 hr0 (fun x hx => wf_i64 (hw0 x hx))).mono fun e W' ⟨he, bel⟩ => ?_
  subst he
  exact ⟨_, rfl, _, _, _, [], _, q, hW', trodAll_mk1 (shut_bool Tryd.underlying4 _), (trodAll_cons_mk (Below.trod laidOut (by kernel_rfl) (of_decide_eq_true (by kernel_rfl)) k0 bel lt0) (trodAll_cons_mk (shut_int Tryd.underlying23 w1) (trodAll_cons_mk (Below.trod laidOut (by kernel_rfl) (of_decide_eq_true (by kernel_rfl)) k2 bel lt2) trodAll_mk0))), Below.trodVars laidOut bel (by kernel_rfl) hV0, bel.frame _, fun h => by cases h⟩
theorem over : Rows.fnGetSetIntRow.holds Tryd.pinned (OpenSpec.ofChange Rows.fnGetSetIntSpec) :=
  OpenClaim.holds_of_wide 5 Tryd.f5 rfl rfl rfl rfl rfl rfl rfl ⟨rfl, rfl, rfl, rfl, rfl⟩ rfl rfl rfl rfl rfl (by kernel_rfl) Tryd.func5 (by kernel_rfl)
    (of_decide_eq_true (by kernel_rfl)) (by unfold Func.isWrapper; first | (rw [if_pos (by decide +kernel)]; kernel_rfl) | (rw [if_neg (by decide +kernel)]; exact ⟨rfl, rfl⟩))
    (fun os started H enc _ => lifted os started H enc)
theorem card : Rows.FnGetSetIntCardSaid :=
  Claim7.holds_tied_plain_at .later [] [.wider] true (true, "0d4708743a84d1214b3534b55cf114c8d1328b1bcb1384585fdcd2ad220c577d") false over (fun _ h => by cases h) (by kernel_rfl) (fun _ h => by cases h) fnGetSetInt_row_tie rfl ⟨rfl, rfl⟩ (by kernel_rfl) rfl
    (fun f fn hf hfn => by
      obtain rfl : f = 5 := Option.some.inj ((show Tryd.prog.funcNamed "given.example/pub-saddlebag/laws.FnGetSetInt" = some 5 by kernel_rfl).symm.trans hf) |>.symm
      obtain rfl : fn = Tryd.f5 := (Option.some.inj (Tryd.func5.symm.trans hfn)).symm
      exact ⟨by kernel_rfl, fun j t ht => by
        rw [Tryd.params5] at ht
        have hm : t ∈ [45, 23, 24] := by simpa using Array.mem_of_getElem? ht
        have hall : ([45, 23, 24].all fun u => !Tryd.prog.wantsStandIn u) = true := by kernel_rfl
        exact (show Tryd.prog.wantsStandIn t = false by simpa using List.all_eq_true.1 hall t hm)⟩)
    (by kernel_rfl)
end Go.Proofs.YtfhaddnacdjpoaaDoor.fnGetSetInt
namespace Go.Proofs.YtfhaddnacdjpoaaDoor
/-- The tied card, under a short name, for the claim. -/
theorem fnGetSetInt_holds : Rows.FnGetSetIntCardSaid := fnGetSetInt.card
#print axioms fnGetSetInt_holds
end Go.Proofs.YtfhaddnacdjpoaaDoor
