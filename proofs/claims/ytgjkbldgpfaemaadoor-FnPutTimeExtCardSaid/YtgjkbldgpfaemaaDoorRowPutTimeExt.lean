/- The law FnPutTimeExt: a time, appended to bytes, is the timestamp extension of MessagePack behind them; the package variable msgTimeExtension holds -1. -/
import Derived.Test.YtgjkbldgpfaemaaDoorRows
import Derived.Test.YtgjkbldgpfaemaaDoorCards
import Derived.Test.YtgjkbldgpfaemaaDoorTie
import Derived.Test.YtgjkbldgpfaemaaDoorOpen
import Derived.LaidMore
import Derived.Lay
import Derived.SevenTiedAt
import Derived.Test.YtgjkbldgpfaemaaDoorTh
import Derived.LaidLaws
import Derived.OpenVars
import Derived.ChangeVars
namespace Go.Proofs.YtgjkbldgpfaemaaDoor.fnPutTimeExt
open Go.ChangeShapes Go.WideShapes Go.ChangeAt Go.RowKit
open Go.ChangeMaps (open_string shut_string)
set_option linter.unusedVariables false
/-- What the row lays, as a cell. -/
theorem cell_of_laid {W : World} (h : laidMetH Tryd.prog Rows.fnPutTimeExtRow.laid W) : W.cell? ⟨0, 0, none⟩ = some (.int .i8 (-1)) := by
  rw [MakeChecks.laidMetH_plain _ _ _ (by kernel_rfl)] at h
  obtain ⟨ps, ⟨g, t, cs, fuel, p, q, hg, ht, hvar, hd, _, _⟩, _⟩ := h
  obtain rfl := Option.some.inj ((show Tryd.prog.globalNamed "given.example/pub-saddlebag/pub/msgp/msgp.msgTimeExtension" = some 0 by kernel_rfl).symm.trans hg)
  obtain rfl := Option.some.inj ((show (Tryd.prog.globals[0]?).map (·.type) = some 41 by kernel_rfl).symm.trans ht)
  obtain ⟨s, hcs, hx, _⟩ := DataW.trod_int Tryd.underlying41 hd
  obtain ⟨hs, _⟩ := Prod.mk.inj hx
  obtain rfl : (-1 : Int) = s := by simpa [Rows.laid_given_example_pub_saddlebag_pub_msgp_msgp_msgTimeExtension] using hs
  obtain rfl : cs = #[.int .i8 (-1)] := by
    obtain ⟨l⟩ := cs
    simp only at hcs
    rw [hcs]
  simpa using World.var?_cell hg hvar 0
set_option maxRecDepth 100000 in
theorem lifted (os : Os) (started : os.Started) (H : Type) (enc : TypeId × Value → H) :
    ReturnsInHanded {} Tryd.checked os 3 .any (fun w args => (Rows.fnPutTimeExtSpec.pre enc Tryd.prog Tryd.f3 Rows.fnPutTimeExtRow.domain false w args ∧ laidMetH Tryd.prog Rows.fnPutTimeExtRow.laid w) ∧ sizedMet enc Tryd.prog Tryd.f3 (OpenSpec.ofChange Rows.fnPutTimeExtSpec) false w args)
      (Rows.fnPutTimeExtSpec.post enc Tryd.prog Tryd.f3 false true false false) := by
  refine returnsInHanded_of_change_and (C := Tryd.checked) (X := fun w _ => laidMetH Tryd.prog Rows.fnPutTimeExtRow.laid w) (fun _ _ _ hh h => h.of_heap hh) own started (by kernel_rfl) Tryd.func3
    (ChangeSpec.witness_shaped (enc := enc) (C := Tryd.checked) (os := os) (X := fun w _ => laidMetH Tryd.prog Rows.fnPutTimeExtRow.laid w) false (World.laidAll Tryd.prog os Rows.fnPutTimeExtRow.laid) #[.slice none 0 0, .int .i64 0, .int .i32 0] 8 (World.laidAll_os _ _ _)
      (World.shaped_of_ZipB (by kernel_rfl) (by kernel_rfl)) (by kernel_rfl) (by kernel_rfl) (by kernel_rfl)
      (by rw [MakeChecks.laidMetH_plain _ _ _ (by kernel_rfl)]; exact laidMet_laidAll _ (by kernel_rfl) (by kernel_rfl))) ?_
  intro W base args ds gs before hval0 hW hcnd hsz0 hL _
  have hsz : (DataW.weightsEach Tryd.prog (Tryd.f3.params.toList ++ Rows.fnPutTimeExtSpec.plain.varTypes Tryd.prog) (ds ++ gs)).all (· ≤ reachBytes) = true := hsz0
  have hval : ∀ (j : Nat) t v, Tryd.f3.params[j]? = some t → args[j]? = some v → Value.okWide Tryd.prog W .any base t v := hval0
  have hW' := hW
  obtain ⟨p, q, hA0, hV, rfl, hfz, hnd⟩ := hW
  have hA : DataW.TrodAll enc Tryd.prog W 0 (fun _ => true) true Tryd.f3.params.toList args.toList ds p := hA0
  rw [Tryd.params3] at hA hval hsz
  obtain ⟨v0, vs0, d0, ds0, p0, q0, hargs, rfl, rfl, h0, r0⟩ := trodAll_cons hA
  obtain ⟨v1, vs1, d1, ds1, p1, q1, rfl, rfl, rfl, h1, r1⟩ := trodAll_cons r0
  obtain ⟨v2, vs2, d2, ds2, p2, q2, rfl, rfl, rfl, h2, r2⟩ := trodAll_cons r1
  obtain ⟨rfl, rfl, rfl⟩ := trodAll_nil r2
  obtain rfl : args = #[v0, v1, v2] := by cases args; simp_all
  have hV0 : DataW.TrodVars enc Tryd.prog W (fun _ => true) ["given.example/pub-saddlebag/pub/msgp/msgp.msgTimeExtension"] gs q := hV
  obtain ⟨gg, tt, ccs, fu, dg, pg, rfl, hg1, hg2, hg3, hg4, hq⟩ := trodVars_one hV0
  have hc := cell_of_laid hL
  have hG := World.block_lt_of_cell? W _ hc
  obtain ⟨a0, len0, cap0, rfl⟩ := okWide_slice Tryd.underlying22 (hval 0 22 v0 rfl rfl)
  have k0 := h0
  have lt0 : ∀ x ∈ p0, x.block < W.heap.size := by obtain ⟨m, hm⟩ := k0; exact DataW.trod_lt m _ _ _ hm
  have y0 : len0 * 1 ≤ 140737488351232 := sized_nums hsz (j := 0) (t := 22) rfl rfl Tryd.underlying22 Tryd.underlying5 (by kernel_rfl) (by kernel_rfl) h0
  obtain ⟨l0, rfl, hr0, hc0, hm0, hw0⟩ := open_nums Tryd.underlying22 Tryd.underlying5 (by kernel_rfl) h0
  obtain ⟨a1, rfl, rfl, rfl, w1⟩ := open_int Tryd.underlying2 (hval 1 2 v1 rfl rfl) h1
  obtain ⟨lo1, hi1⟩ := wf_i64 w1
  obtain ⟨a2, rfl, rfl, rfl, w2⟩ := open_int Tryd.underlying21 (hval 2 21 v2 rfl rfl) h2
  obtain ⟨lo2, hi2⟩ := wf_i32 w2
  clear hA0 hval0 hsz0 hsz
  refine (show Calls Tryd.prog 3 _ W (fun e w' => e = .returned (.bool true) ∧ Below W.heap.size W w') from FnPutTimeExt_walk W _ _ l0 _ _ hr0 hc0 hG hc lo1 hi1 lo2 hi2).mono fun e W' ⟨he, bel⟩ => ?_
  subst he
  exact ⟨_, rfl, _, _, _, [], _, q, hW', trodAll_mk1 (shut_bool Tryd.underlying4 _), (trodAll_cons_mk (Below.trod laidOut (by kernel_rfl) (of_decide_eq_true (by kernel_rfl)) k0 bel lt0) (trodAll_cons_mk (shut_int Tryd.underlying2 w1) (trodAll_cons_mk (shut_int Tryd.underlying21 w2) trodAll_mk0))), Below.trodVars laidOut bel (by kernel_rfl) hV0, bel.frame _, fun h => by cases h⟩
theorem over : Rows.fnPutTimeExtRow.holds Tryd.pinned (OpenSpec.ofChange Rows.fnPutTimeExtSpec) :=
  OpenClaim.holds_of_wide 3 Tryd.f3 rfl rfl rfl rfl rfl rfl rfl ⟨rfl, rfl, rfl, rfl, rfl⟩ rfl rfl rfl rfl rfl (by kernel_rfl) Tryd.func3 (by kernel_rfl)
    (of_decide_eq_true (by kernel_rfl)) (by unfold Func.isWrapper; first | (rw [if_pos (by decide +kernel)]; kernel_rfl) | (rw [if_neg (by decide +kernel)]; exact ⟨rfl, rfl⟩))
    (fun os started H enc _ => lifted os started H enc)
theorem card : Rows.FnPutTimeExtCardSaid :=
  Claim7.holds_tied_plain_at .later [] [.data] true (true, "2bc812aa12f363906d4d750c97fc7b1c40929b087eabbc8c197599ce7f56c6e6") false over (fun _ h => by cases h) (by kernel_rfl) (fun _ h => by cases h) fnPutTimeExt_row_tie rfl ⟨rfl, rfl⟩ (by kernel_rfl) rfl
    (fun f fn hf hfn => by
      obtain rfl : f = 3 := Option.some.inj ((show Tryd.prog.funcNamed "given.example/pub-saddlebag/laws.FnPutTimeExt" = some 3 by kernel_rfl).symm.trans hf) |>.symm
      obtain rfl : fn = Tryd.f3 := (Option.some.inj (Tryd.func3.symm.trans hfn)).symm
      exact ⟨by kernel_rfl, fun j t ht => by
        rw [Tryd.params3] at ht
        have hm : t ∈ [22, 2, 21] := by simpa using Array.mem_of_getElem? ht
        have hall : ([22, 2, 21].all fun u => !Tryd.prog.wantsStandIn u) = true := by kernel_rfl
        exact (show Tryd.prog.wantsStandIn t = false by simpa using List.all_eq_true.1 hall t hm)⟩)
    (by kernel_rfl)
end Go.Proofs.YtgjkbldgpfaemaaDoor.fnPutTimeExt
namespace Go.Proofs.YtgjkbldgpfaemaaDoor
/-- The tied card, under a short name, for the claim. -/
theorem fnPutTimeExt_holds : Rows.FnPutTimeExtCardSaid := fnPutTimeExt.card
#print axioms fnPutTimeExt_holds
end Go.Proofs.YtgjkbldgpfaemaaDoor
