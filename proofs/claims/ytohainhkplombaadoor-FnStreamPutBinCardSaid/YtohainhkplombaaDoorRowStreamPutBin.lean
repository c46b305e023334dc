/- The law FnStreamPutBin: bytes that are written by a Writer, whatever its buffer, stand one behind the other. -/
import Derived.Test.YtohainhkplombaaDoorRows
import Derived.Test.YtohainhkplombaaDoorCards
import Derived.Test.YtohainhkplombaaDoorTie
import Derived.Test.YtohainhkplombaaDoorOpen
import Derived.LaidMore
import Derived.Lay
import Derived.SevenTiedAt
import Derived.Test.YtohainhkplombaaDoorBt
import Derived.Test.YtohainhkplombaaDoorBq
import Derived.OpenVars
import Derived.ChangeVars
namespace Go.Proofs.YtohainhkplombaaDoor.fnStreamPutBin
open Go.ChangeShapes Go.WideShapes Go.ChangeAt Go.RowKit
open Go.ChangeMaps (open_string shut_string)
set_option linter.unusedVariables false
set_option maxRecDepth 100000 in
theorem lifted (os : Os) (started : os.Started) (H : Type) (enc : TypeId × Value → H) :
    ReturnsInHanded {} Tryd.checked os 3 .any (fun w args => (Rows.fnStreamPutBinSpec.pre enc Tryd.prog Tryd.f3 Rows.fnStreamPutBinRow.domain false w args ∧ laidMetH Tryd.prog Rows.fnStreamPutBinRow.laid w) ∧ sizedMet enc Tryd.prog Tryd.f3 (OpenSpec.ofChange Rows.fnStreamPutBinSpec) false w args)
      (Rows.fnStreamPutBinSpec.post enc Tryd.prog Tryd.f3 false true false false) := by
  refine returnsInHanded_of_change_and (C := Tryd.checked) (X := fun w _ => laidMetH Tryd.prog Rows.fnStreamPutBinRow.laid w) (fun _ _ _ hh h => h.of_heap hh) own started (by kernel_rfl) Tryd.func3
    (ChangeSpec.witness_shaped (enc := enc) (C := Tryd.checked) (os := os) (X := fun w _ => laidMetH Tryd.prog Rows.fnStreamPutBinRow.laid w) false (World.laidAll Tryd.prog os Rows.fnStreamPutBinRow.laid) #[.int .i64 0, .slice none 0 0] 8 (World.laidAll_os _ _ _)
      (World.shaped_of_ZipB (by kernel_rfl) (by kernel_rfl)) (by kernel_rfl) (by kernel_rfl) (by kernel_rfl)
      (by rw [MakeChecks.laidMetH_plain _ _ _ (by kernel_rfl)]; exact laidMet_laidAll _ (by kernel_rfl) (by kernel_rfl))) ?_
  intro W base args ds gs before hval0 hW hcnd hsz0 hL _
  have hsz : (DataW.weightsEach Tryd.prog (Tryd.f3.params.toList ++ Rows.fnStreamPutBinSpec.plain.varTypes Tryd.prog) (ds ++ gs)).all (· ≤ reachBytes) = true := hsz0
  have hval : ∀ (j : Nat) t v, Tryd.f3.params[j]? = some t → args[j]? = some v → Value.okWide Tryd.prog W .any base t v := hval0
  have hW' := hW
  obtain ⟨p, q, hA0, hV, rfl, hfz, hnd⟩ := hW
  have hA : DataW.TrodAll enc Tryd.prog W 0 (fun _ => true) true Tryd.f3.params.toList args.toList ds p := hA0
  rw [Tryd.params3] at hA hval hsz
  obtain ⟨v0, vs0, d0, ds0, p0, q0, hargs, rfl, rfl, h0, r0⟩ := trodAll_cons hA
  obtain ⟨v1, vs1, d1, ds1, p1, q1, rfl, rfl, rfl, h1, r1⟩ := trodAll_cons r0
  obtain ⟨rfl, rfl, rfl⟩ := trodAll_nil r1
  obtain rfl : args = #[v0, v1] := by cases args; simp_all
  have hV0 : DataW.TrodVars enc Tryd.prog W (fun _ => true) ["given.example/pub-saddlebag/pub/msgp/msgp.ErrLimitExceeded"] gs q := hV
  obtain ⟨gg, tt, ccs, fu, dg, pg, rfl, hg1, hg2, hg3, hg4, hq⟩ := trodVars_one hV0
  obtain ⟨a0, rfl, rfl, rfl, w0⟩ := open_int Tryd.underlying3 (hval 0 3 v0 rfl rfl) h0
  obtain ⟨lo0, hi0⟩ := wf_i64 w0
  obtain ⟨a1, len1, cap1, rfl⟩ := okWide_slice Tryd.underlying22 (hval 1 22 v1 rfl rfl)
  have k1 := h1
  have lt1 : ∀ x ∈ p1, x.block < W.heap.size := by obtain ⟨m, hm⟩ := k1; exact DataW.trod_lt m _ _ _ hm
  obtain ⟨l1, rfl, hr1, hc1, hm1, hw1⟩ := open_strsT Tryd.underlying22 Tryd.underlying9 (by kernel_rfl) h1
  clear hA0 hval0 hsz0 hsz
  refine (show Calls Tryd.prog 3 _ W (fun e w' => e = .returned (.bool true) ∧ Below W.heap.size W w') from FnStreamPutBin_walk W _ _ _ l1 hr1 (by simp only [maxLen] at hm1; omega) (fun x hx => (hw1 x hx).1) (fun x hx => (hw1 x hx).2)).mono fun e W' ⟨he, bel⟩ => ?_
  subst he
  exact ⟨_, rfl, _, _, _, [], _, q, hW', trodAll_mk1 (shut_bool Tryd.underlying4 _), (trodAll_cons_mk (shut_int Tryd.underlying3 w0) (trodAll_cons_mk (Below.trod laidOut (by kernel_rfl) (of_decide_eq_true (by kernel_rfl)) k1 bel lt1) trodAll_mk0)), Below.trodVars laidOut bel (by kernel_rfl) hV0, bel.frame _, fun h => by cases h⟩
theorem over : Rows.fnStreamPutBinRow.holds Tryd.pinned (OpenSpec.ofChange Rows.fnStreamPutBinSpec) :=
  OpenClaim.holds_of_wide 3 Tryd.f3 rfl rfl rfl rfl rfl rfl rfl ⟨rfl, rfl, rfl, rfl, rfl⟩ rfl rfl rfl rfl rfl (by kernel_rfl) Tryd.func3 (by kernel_rfl)
    (of_decide_eq_true (by kernel_rfl)) (by unfold Func.isWrapper; first | (rw [if_pos (by decide +kernel)]; kernel_rfl) | (rw [if_neg (by decide +kernel)]; exact ⟨rfl, rfl⟩))
    (fun os started H enc _ => lifted os started H enc)
theorem card : Rows.FnStreamPutBinCardSaid :=
  Claim7.holds_tied_plain_at .later [] [.wider] true (true, "7c0c3f4489771bc5e9901b176aec5997c689096647d0aa0497f9730fcbe1fc72") false over (fun _ h => by cases h) (by kernel_rfl) (fun _ h => by cases h) fnStreamPutBin_row_tie rfl ⟨rfl, rfl⟩ (by kernel_rfl) rfl
    (fun f fn hf hfn => by
      obtain rfl : f = 3 := Option.some.inj ((show Tryd.prog.funcNamed "given.example/pub-saddlebag/laws.FnStreamPutBin" = some 3 by kernel_rfl).symm.trans hf) |>.symm
      obtain rfl : fn = Tryd.f3 := (Option.some.inj (Tryd.func3.symm.trans hfn)).symm
      exact ⟨by kernel_rfl, fun j t ht => by
        rw [Tryd.params3] at ht
        have hm : t ∈ [3, 22] := by simpa using Array.mem_of_getElem? ht
        have hall : ([3, 22].all fun u => !Tryd.prog.wantsStandIn u) = true := by kernel_rfl
        exact (show Tryd.prog.wantsStandIn t = false by simpa using List.all_eq_true.1 hall t hm)⟩)
    (by kernel_rfl)
end Go.Proofs.YtohainhkplombaaDoor.fnStreamPutBin
namespace Go.Proofs.YtohainhkplombaaDoor
/-- The tied card, under a short name, for the claim. -/
theorem fnStreamPutBin_holds : Rows.FnStreamPutBinCardSaid := fnStreamPutBin.card
#print axioms fnStreamPutBin_holds
end Go.Proofs.YtohainhkplombaaDoor
