/- A string, or a symbol, is read back in whatever form it is written, with what stands behind it; a value of another kind, and one that is cut off, is refused (any Handed of at most 2^31 - 1 bytes behind it, as the statement has it). -/
import Derived.Test.YtjjhckbidcdkcaaDoorRows
import Derived.Test.YtjjhckbidcdkcaaDoorCards
import Derived.Test.YtjjhckbidcdkcaaDoorTie
import Derived.Test.YtjjhckbidcdkcaaDoorOpen
import Derived.LaidMore
import Derived.Lay
import Derived.SevenTiedAt
import Derived.Lib.LaidU8T
import Derived.LaidLaws
import Derived.Stop.LaidErr
import Derived.Test.YtjjhckbidcdkcaaDoorHb
import Derived.Test.YtjjhckbidcdkcaaDoorYb
namespace Go.Proofs.YtjjhckbidcdkcaaDoor.fnReadString
open Go.ChangeShapes Go.WideShapes Go.ChangeAt Go.RowKit
open Go.ChangeMaps (open_string shut_string)
set_option linter.unusedVariables false
theorem met {W : World} (h : laidMetH Tryd.prog Rows.fnReadStringRow.laid W) : laidMet Tryd.prog Rows.fnReadStringRow.laid W := by
  rw [MakeChecks.laidMetH_plain _ _ _ (by kernel_rfl)] at h
  exact h
set_option maxRecDepth 100000 in
/-- io.EOF holds an error. -/
theorem eof_of_laid {W : World} (h : laidMetH Tryd.prog Rows.fnReadStringRow.laid W) : EofS W W.heap.size := by
  have h := (met h).tail
  obtain ⟨ps, ⟨g, t, cs, fuel, p, q, hg, ht, hvar, hd, _, _⟩, _⟩ := h
  obtain rfl := Option.some.inj ((show Tryd.prog.globalNamed "io.EOF" = some 2 by kernel_rfl).symm.trans hg)
  obtain rfl := Option.some.inj ((show (Tryd.prog.globals[2]?).map (·.type) = some 68 by kernel_rfl).symm.trans ht)
  obtain ⟨_, u, v, hcs, _, _⟩ := iface_of_trod Tryd.underlying68 hd
  obtain rfl : cs = #[.iface u v] := by
    obtain ⟨l⟩ := cs
    simp only at hcs
    rw [hcs]
  have hc : W.cell? ⟨2, 0, none⟩ = some (.iface u v) := by simpa using World.var?_cell hg hvar 0
  exact ⟨World.block_lt_of_cell? W _ hc, u, v, hc⟩
set_option maxRecDepth 100000 in
/-- The tables of UTF-8. -/
theorem ut_of_laid {W : World} (h : laidMetH Tryd.prog Rows.fnReadStringRow.laid W) : UT W.heap.size W := by
  have hL := met h
  have e1 : Rows.laid_unicode_utf8_first = Lib.firstData := by kernel_rfl
  have e2 : (Rows.laid_unicode_utf8_acceptRanges : DataW Unit) = Lib.acceptData := by kernel_rfl
  have m1 : ("unicode/utf8.first", Rows.laid_unicode_utf8_first) ∈ Rows.fnReadStringRow.laid := .tail _ (.tail _ (.head _))
  have m2 : ("unicode/utf8.acceptRanges", (Rows.laid_unicode_utf8_acceptRanges : DataW Unit)) ∈ Rows.fnReadStringRow.laid := .head _
  have htab : Lib.Utf8Tabs (Tryd.vs_ren.g 3) (Tryd.vs_ren.g 4) W :=
    utf8Tabs_of_readsT (U8Types.of196 Tryd.vs) ⟨by kernel_rfl, by kernel_rfl, by kernel_rfl, by kernel_rfl, by kernel_rfl, by kernel_rfl, by kernel_rfl⟩ (e1 ▸ Lib.laidMet.reads hL m1) (e2 ▸ Lib.laidMet.reads hL m2)
  exact ⟨htab, World.block_lt_of_cell? W _ (htab.1 0 (by decide)), World.block_lt_of_cell? W _ (htab.2 0 (by decide)).1⟩
set_option maxRecDepth 100000 in
theorem lifted (os : Os) (started : os.Started) (H : Type) (enc : TypeId × Value → H) :
    ReturnsInHanded {} Tryd.checked os 5 .any (fun w args => (Rows.fnReadStringSpec.pre enc Tryd.prog Tryd.f5 Rows.fnReadStringRow.domain false w args ∧ laidMetH Tryd.prog Rows.fnReadStringRow.laid w) ∧ sizedMet enc Tryd.prog Tryd.f5 (OpenSpec.ofChange Rows.fnReadStringSpec) false w args)
      (Rows.fnReadStringSpec.post enc Tryd.prog Tryd.f5 false true false false) := by
  refine returnsInHanded_of_change_and (C := Tryd.checked) (X := fun w _ => laidMetH Tryd.prog Rows.fnReadStringRow.laid w) (fun _ _ _ hh h => h.of_heap hh) own started (by kernel_rfl) Tryd.func5
    (ChangeSpec.witness_shaped (enc := enc) (C := Tryd.checked) (os := os) (X := fun w _ => laidMetH Tryd.prog Rows.fnReadStringRow.laid w) false (World.laidAll Tryd.prog os Rows.fnReadStringRow.laid) #[.agg #[.int .i64 0, .int .u64 0, .string ByteArray.empty, .slice none 0 0, .int .i64 0, .slice none 0 0, .int .u64 0, .slice none 0 0, .int .i64 0]] 8 (World.laidAll_os _ _ _)
      (World.shaped_of_ZipB (by kernel_rfl) (by kernel_rfl)) (by kernel_rfl) (by kernel_rfl) (by kernel_rfl)
      (by rw [MakeChecks.laidMetH_plain _ _ _ (by kernel_rfl)]; exact laidMet_laidAll _ (by kernel_rfl) (by kernel_rfl))) ?_
  intro W base args ds gs before hval0 hW hcnd hsz0 hL _
  have hval : ∀ (j : Nat) t v, Tryd.f5.params[j]? = some t → args[j]? = some v → Value.okWide Tryd.prog W .any base t v := hval0
  have hW' := hW
  obtain ⟨p, q, hA0, hV, rfl, hfz, hnd⟩ := hW
  have hA : DataW.TrodAll enc Tryd.prog W 0 (fun _ => true) true Tryd.f5.params.toList args.toList ds p := hA0
  rw [Tryd.params5] at hA hval
  obtain ⟨v0, vs0, d0, ds0, p0, q0, hargs, rfl, rfl, h0, r0⟩ := trodAll_cons hA
  obtain ⟨rfl, rfl, rfl⟩ := trodAll_nil r0
  obtain rfl : args = #[v0] := by cases args; simp_all
  obtain ⟨rfl, rfl⟩ := trodVars_none hV
  have hE := eof_of_laid hL
  have hU := ut_of_laid hL
  have k0 := h0
  have lt0 : ∀ x ∈ p0, x.block < W.heap.size := by obtain ⟨m, hm⟩ := k0; exact DataW.trod_lt m _ _ _ hm
  obtain ⟨T, fo, cut, A, Ab, c, cb, bl, rfl, hwf, hTV, hr0, hc0, hm0, hfo, hcut, hbb⟩ := open_handed (hval 0 28 v0 rfl rfl) h0
  clear hA0 hval0 hsz0
  refine (show Calls Tryd.prog 5 _ W (fun e w' => e = .returned (.bool true) ∧ Below W.heap.size W w') from lawS_calls T W fo cut A Ab c cb bl hTV hU hE hr0 hc0 hm0 hbb).mono fun e W' ⟨he, bel⟩ => ?_
  subst he
  exact ⟨_, rfl, _, _, _, [], _, [], hW', trodAll_mk1 (shut_bool Tryd.underlying4 _), (trodAll_cons_mk (Below.trod laidOut (by kernel_rfl) (of_decide_eq_true (by kernel_rfl)) k0 bel lt0) trodAll_mk0), rfl, bel.frame _, fun h => by cases h⟩
theorem over : Rows.fnReadStringRow.holds Tryd.pinned (OpenSpec.ofChange Rows.fnReadStringSpec) :=
  OpenClaim.holds_of_wide 5 Tryd.f5 rfl rfl rfl rfl rfl rfl rfl ⟨rfl, rfl, rfl, rfl, rfl⟩ rfl rfl rfl rfl rfl (by kernel_rfl) Tryd.func5 (by kernel_rfl)
    (of_decide_eq_true (by kernel_rfl)) (by unfold Func.isWrapper; first | (rw [if_pos (by decide +kernel)]; kernel_rfl) | (rw [if_neg (by decide +kernel)]; exact ⟨rfl, rfl⟩))
    (fun os started H enc _ => lifted os started H enc)
theorem card : Rows.FnReadStringCardSaid :=
  Claim7.holds_tied_plain_at .later [] [.data, .sentinel, .pinned] true (true, "e653c01de4e8227003e7d5cb6003116477b1836d6d39dfb9557fec9ef05d68a2") false over (fun _ h => by cases h) (by kernel_rfl) (fun _ h => by cases h) fnReadString_row_tie rfl ⟨rfl, rfl⟩ (by kernel_rfl) rfl
    (fun f fn hf hfn => by
      obtain rfl : f = 5 := Option.some.inj ((show Tryd.prog.funcNamed "given.example/pub-saddlebag/laws.FnReadString" = some 5 by kernel_rfl).symm.trans hf) |>.symm
      obtain rfl : fn = Tryd.f5 := (Option.some.inj (Tryd.func5.symm.trans hfn)).symm
      exact ⟨by kernel_rfl, fun j t ht => by
        rw [Tryd.params5] at ht
        have hm : t ∈ [28] := by simpa using Array.mem_of_getElem? ht
        have hall : ([28].all fun u => !Tryd.prog.wantsStandIn u) = true := by kernel_rfl
        exact (show Tryd.prog.wantsStandIn t = false by simpa using List.all_eq_true.1 hall t hm)⟩)
    (by kernel_rfl)
end Go.Proofs.YtjjhckbidcdkcaaDoor.fnReadString
namespace Go.Proofs.YtjjhckbidcdkcaaDoor
/-- The tied card, under a short name, for the claim. -/
theorem fnReadString_holds : Rows.FnReadStringCardSaid := fnReadString.card
#print axioms fnReadString_holds
end Go.Proofs.YtjjhckbidcdkcaaDoor
