/- The law FnGetFloat64: a float64 is read, and a float32 as the same number; texts and the like, and one that is cut off, are refused. -/
import Derived.Test.YtlpnaifagiddlaaDoorRows
import Derived.Test.YtlpnaifagiddlaaDoorCards
import Derived.Test.YtlpnaifagiddlaaDoorTie
import Derived.Test.YtlpnaifagiddlaaDoorOpen
import Derived.LaidMore
import Derived.Lay
import Derived.SevenTiedAt
import Derived.Test.YtlpnaifagiddlaaDoorQb
import Derived.Test.YtlpnaifagiddlaaDoorUe
import Derived.LaidLaws
import Derived.OpenVars
import Derived.ChangeVars
namespace Go.Proofs.YtlpnaifagiddlaaDoor.fnGetFloat64
open Go.ChangeShapes Go.WideShapes Go.ChangeAt Go.RowKit
open Go.ChangeMaps (open_string shut_string)
set_option linter.unusedVariables false
/-- What the row lays, as a cell. -/
theorem cell_of_laid {W : World} (h : laidMetH Tryd.prog Rows.fnGetFloat64Row.laid W) : ∃ ts vs, W.cell? ⟨1, 0, none⟩ = some (.iface ts vs) := by
  rw [MakeChecks.laidMetH_plain _ _ _ (by kernel_rfl)] at h
  obtain ⟨ps, ⟨g, t, cs, fuel, p, q, hg, ht, hvar, hd, _, _⟩, _⟩ := h
  obtain rfl := Option.some.inj ((show Tryd.prog.globalNamed "given.example/pub-saddlebag/pub/msgp/msgp.ErrShortBytes" = some 1 by kernel_rfl).symm.trans hg)
  obtain rfl := Option.some.inj ((show (Tryd.prog.globals[1]?).map (·.type) = some 66 by kernel_rfl).symm.trans ht)
  obtain ⟨u, v, hcs⟩ := iface_of_trod Tryd.underlying66 hd
  obtain rfl : cs = #[.iface u v] := by
    obtain ⟨l⟩ := cs
    simp only at hcs
    rw [hcs]
  exact ⟨u, v, by simpa using World.var?_cell hg hvar 0⟩
set_option maxRecDepth 100000 in
theorem lifted (os : Os) (started : os.Started) (H : Type) (enc : TypeId × Value → H) :
    ReturnsInHanded {} Tryd.checked os 3 .any (fun w args => (Rows.fnGetFloat64Spec.pre enc Tryd.prog Tryd.f3 Rows.fnGetFloat64Row.domain false w args ∧ laidMetH Tryd.prog Rows.fnGetFloat64Row.laid w) ∧ sizedMet enc Tryd.prog Tryd.f3 (OpenSpec.ofChange Rows.fnGetFloat64Spec) false w args)
      (Rows.fnGetFloat64Spec.post enc Tryd.prog Tryd.f3 false true false false) := by
  refine returnsInHanded_of_change_and (C := Tryd.checked) (X := fun w _ => laidMetH Tryd.prog Rows.fnGetFloat64Row.laid w) (fun _ _ _ hh h => h.of_heap hh) own started (by kernel_rfl) Tryd.func3
    (ChangeSpec.witness_shaped (enc := enc) (C := Tryd.checked) (os := os) (X := fun w _ => laidMetH Tryd.prog Rows.fnGetFloat64Row.laid w) false (World.laidAll Tryd.prog os Rows.fnGetFloat64Row.laid) #[.agg #[.int .i64 0, .int .u64 0, .string ByteArray.empty, .int .i64 0, .slice none 0 0, .int .u64 0, .bool false, .slice none 0 0, .int .i64 0]] 8 (World.laidAll_os _ _ _)
      (World.shaped_of_ZipB (by kernel_rfl) (by kernel_rfl)) (by kernel_rfl) (by kernel_rfl) (by kernel_rfl)
      (by rw [MakeChecks.laidMetH_plain _ _ _ (by kernel_rfl)]; exact laidMet_laidAll _ (by kernel_rfl) (by kernel_rfl))) ?_
  intro W base args ds gs before hval0 hW hcnd hsz0 hL _
  have hval : ∀ (j : Nat) t v, Tryd.f3.params[j]? = some t → args[j]? = some v → Value.okWide Tryd.prog W .any base t v := hval0
  have hW' := hW
  obtain ⟨p, q, hA0, hV, rfl, hfz, hnd⟩ := hW
  have hA : DataW.TrodAll enc Tryd.prog W 0 (fun _ => true) true Tryd.f3.params.toList args.toList ds p := hA0
  rw [Tryd.params3] at hA hval
  obtain ⟨v0, vs0, d0, ds0, p0, q0, hargs, rfl, rfl, h0, r0⟩ := trodAll_cons hA
  obtain ⟨rfl, rfl, rfl⟩ := trodAll_nil r0
  obtain rfl : args = #[v0] := by cases args; simp_all
  have hV0 : DataW.TrodVars enc Tryd.prog W (fun _ => true) ["given.example/pub-saddlebag/pub/msgp/msgp.ErrShortBytes"] gs q := hV
  obtain ⟨gg, tt, ccs, fu, dg, pg, rfl, hg1, hg2, hg3, hg4, hq⟩ := trodVars_one hV0
  obtain ⟨ts, vs, hc⟩ := cell_of_laid hL
  have hG := World.block_lt_of_cell? W _ hc
  have k0 := h0
  have lt0 : ∀ x ∈ p0, x.block < W.heap.size := by obtain ⟨m, hm⟩ := k0; exact DataW.trod_lt m _ _ _ hm
  obtain ⟨T, fo, cut, sh, A, Ab, c, cb, bl, rfl, hwf, hTR, hr0, hc0, hm0⟩ := open_given (hval 0 28 v0 rfl rfl) h0
  clear hA0 hval0 hsz0
  refine (show Calls Tryd.prog 3 _ W (fun e w' => e = .returned (.bool true) ∧ Below W.heap.size W w') from by
    by_cases hI : T.k = 2 ∨ T.k = 3
    · exact lawGF_int T W fo cut A Ab c cb sh bl hwf hTR hr0 hc0 hm0 ts vs hc hG hI
    · have h2 : T.k ≠ 2 := fun e => hI (.inl e)
      have h3 : T.k ≠ 3 := fun e => hI (.inr e)
      by_cases hcut : 0 < cut
      · exact lawGF_cut T W fo cut A Ab c cb sh bl hwf hTR hr0 hc0 hm0 ts vs hc hG h2 h3 hcut
      · by_cases h5 : T.k = 5
        · exact lawGF_dbl T W fo cut A Ab c cb sh bl hwf hTR hr0 hc0 hm0 ts vs hc hG h5 hcut
        · by_cases h4 : T.k = 4
          · exact lawGF_sgl T W fo cut A Ab c cb sh bl hwf hTR hr0 hc0 hm0 ts vs hc hG h4 hcut
          · exact lawGF_rest T W fo cut A Ab c cb sh bl hwf hTR hr0 hc0 hm0 ts vs hc hG h2 h3 h4 h5 hcut).mono fun e W' ⟨he, bel⟩ => ?_
  subst he
  exact ⟨_, rfl, _, _, _, [], _, q, hW', trodAll_mk1 (shut_bool Tryd.underlying4 _), (trodAll_cons_mk (Below.trod laidOut (by kernel_rfl) (of_decide_eq_true (by kernel_rfl)) k0 bel lt0) trodAll_mk0), Below.trodVars laidOut bel (by kernel_rfl) hV0, bel.frame _, fun h => by cases h⟩
theorem over : Rows.fnGetFloat64Row.holds Tryd.pinned (OpenSpec.ofChange Rows.fnGetFloat64Spec) :=
  OpenClaim.holds_of_wide 3 Tryd.f3 rfl rfl rfl rfl rfl rfl rfl ⟨rfl, rfl, rfl, rfl, rfl⟩ rfl rfl rfl rfl rfl (by kernel_rfl) Tryd.func3 (by kernel_rfl)
    (of_decide_eq_true (by kernel_rfl)) (by unfold Func.isWrapper; first | (rw [if_pos (by decide +kernel)]; kernel_rfl) | (rw [if_neg (by decide +kernel)]; exact ⟨rfl, rfl⟩))
    (fun os started H enc _ => lifted os started H enc)
theorem card : Rows.FnGetFloat64CardSaid :=
  Claim7.holds_tied_plain_at .later [] [.wider] true (true, "61d107ea9bf129d9a76c2355e411169188f70673bbaaa9b5600a9920b475a8ef") false over (fun _ h => by cases h) (by kernel_rfl) (fun _ h => by cases h) fnGetFloat64_row_tie rfl ⟨rfl, rfl⟩ (by kernel_rfl) rfl
    (fun f fn hf hfn => by
      obtain rfl : f = 3 := Option.some.inj ((show Tryd.prog.funcNamed "given.example/pub-saddlebag/laws.FnGetFloat64" = some 3 by kernel_rfl).symm.trans hf) |>.symm
      obtain rfl : fn = Tryd.f3 := (Option.some.inj (Tryd.func3.symm.trans hfn)).symm
      exact ⟨by kernel_rfl, fun j t ht => by
        rw [Tryd.params3] at ht
        have hm : t ∈ [28] := by simpa using Array.mem_of_getElem? ht
        have hall : ([28].all fun u => !Tryd.prog.wantsStandIn u) = true := by kernel_rfl
        exact (show Tryd.prog.wantsStandIn t = false by simpa using List.all_eq_true.1 hall t hm)⟩)
    (by kernel_rfl)
end Go.Proofs.YtlpnaifagiddlaaDoor.fnGetFloat64
namespace Go.Proofs.YtlpnaifagiddlaaDoor
/-- The tied card, under a short name, for the claim. -/
theorem fnGetFloat64_holds : Rows.FnGetFloat64CardSaid := fnGetFloat64.card
#print axioms fnGetFloat64_holds
end Go.Proofs.YtlpnaifagiddlaaDoor
